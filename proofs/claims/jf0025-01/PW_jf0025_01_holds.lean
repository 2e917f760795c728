import PyProof.Rows.All
import Wide.All
import OpenK.AllK
import Wide.FinOn
import KE.KSuperObj
import PyProof.SliceList
import PyProof.EqAt
import Wide.WTab
import PyProof.ExcBaseAll.Exception
import PyProof.ExcFactsAll.ValueError
import PyProof.ExcClass2
import PyProof.ListNew
import PyProof.GenObj
import PyProof.CollectWalk
import PyProof.GenArm
import PyProof.WalkInts
import PyProof.SumWalk
import PyProof.NeKinds
import PyProof.Rows.Chain
import PyProof.ListCopy
import Lean
import PySem.Challenge.RW_jf0025_01
open PySem PySem.W PySem.W.X PyProof.Rows
set_option Elab.async false
set_option genInjectivity false
set_option genSizeOf false
set_option bootstrap.genMatcherCode false
set_option maxRecDepth 100000
set_option linter.unusedVariables false
namespace Mine
section
noncomputable abbrev Wz:=Value
noncomputable abbrev WC:=Params
noncomputable abbrev WG:=World
noncomputable abbrev WF:=Shared
noncomputable abbrev WI:=GenState
noncomputable abbrev WK:=Around
noncomputable abbrev WL:=DictEntry
noncomputable abbrev WH:=Result
noncomputable abbrev WM:=Frame
noncomputable abbrev WJ:=Program
noncomputable abbrev WA(a:Type):=Option a
noncomputable abbrev WD(a:Type):=Array a
noncomputable abbrev Wy(a:Type):=List a
noncomputable abbrev ui:=List Value
noncomputable abbrev ug:=Array Value
noncomputable abbrev uh:=List Nat
noncomputable abbrev uk:=List Obj
theorem cg:True:=trivial
noncomputable abbrev ci:= @wpAny_bind
noncomputable abbrev cj:= @wpAny_pure
noncomputable abbrev t8:= @List.mem_map_of_mem
noncomputable abbrev t9:= @List.mem_of_getElem?
variable {a:Type}
theorem t6{b c:a}{d:List a}:b∈c::d->b=c\/b∈d:=List.mem_cons.mp
theorem ua{e:Type}{b:a->e}{d:List a}{c:e}:c∈d.map b->∃f,f∈d/\b f=c:=List.mem_map.mp
noncomputable abbrev uc:= @List.mem_append_right
noncomputable abbrev ue:= @List.mem_append_left
theorem ud{b:a}{c d:List a}:b∈c++d->b∈c\/b∈d:=List.mem_append.mp
noncomputable abbrev gi:=Obj
end
variable {c:Nat}
section
noncomputable def PW:WJ:=PySem.Challenge.pw_jf0025_01
noncomputable def u6:Stmt:=(PW.main.body.getLast?).getD (.Pass ⟨0,0,0,0⟩)
noncomputable def QV:WJ:={PW with main:={PW.main with body:=[u6]}}
noncomputable def s5:DefRec:=match u6 with
 | .FunctionDef c a b _ _ _ e _ _ d=>⟨c,a,b,e,d⟩
 |_=>⟨Str.empty,⟨[],[],none,[],[],none,[]⟩,[],default,⟨0,0,0,0⟩⟩
noncomputable def yj:Stmt->Wy Str
 | .FunctionDef a .. =>[a]
 | .ClassDef a .. =>[a]
 | .Assign [.Name a _] _ _=>[a]
 |_=>[]
noncomputable def pu:Wy Str:=(PW.main.body.dropLast.flatMap yj).eraseDups
noncomputable def JO(d:WJ)(f:WG)(c:Nat)(b:WA Wz):Nat->SharedT->Thread->WA SharedT
 |0,_,_=>none
 |n+1,e,a=>match through a with
  |true=>some e
  |false=>match stepOk c b a with
   |false=>none
   |true=>match stepT (denote treeTable) d f e a with
    |some (g,h)=>JO d f c b n g h
    |none=>none
theorem qJ{a:WJ}{d:WG}{c:Nat}{b:WA Wz}:∀(n:Nat) (g:SharedT) (f:Thread) (i:SharedT),JO a d c b n g f=some i->topRun treeTable a d c b n g.abs f=some i.abs
 |0,_,_,_,e=>by cases e
 |n+1,g,f,i,e=>by
  unfold JO at e;unfold topRun;cases k:through f with
  |true=>rw[k]at e;cases e;rfl
  |false=>
   rw[k]at e;cases j:stepOk c b f with
   |false=>rw[j]at e;cases e
   |true=>
    rw[j]at e;cases h:stepT (denote treeTable) a d g f with
    |none=>rw[h]at e;cases e
    |some l=>obtain⟨m,o⟩:=l;rw[h]at e;simp only[stepT_spec h];exact qJ n _ _ _ e
noncomputable def Kc:uk->Nat->BT->BT
 |[],_,a=>a
 |o::c,b,a=>Kc c (b+1) (a.ins b o)
noncomputable def yk(a:WC):BT:=Kc [boot_o_0 a,boot_o_1 a,boot_o_2 a,boot_o_3 a,boot_o_4 a,boot_o_5 a,boot_o_6 a,boot_o_7 a,boot_o_8 a,boot_o_9 a,boot_o_10 a] 0 .nil
noncomputable def yl(a:WC)(b:OsState):SharedT:=⟨yk a,11,{},#[],boot_drawn,boot_toks,b⟩
theorem wI(a:WC)(b:OsState):(yl a b).abs=⟨boot_heap a,#[],boot_drawn,boot_toks,b⟩:=by have:(absHeap (yk a) 11 {})=boot_heap a:=rfl;refine(?_:(⟨absHeap (yk a) 11 {},_,_,_,_⟩:WF)=_);rw[this];rfl
variable {b:Type}
noncomputable def atEnd(c g:WJ)(f:Wy Str)(e:WF->b)(d a:WF):=match staticsOk (importedModules c.main.body) d.heap a.heap && namesBound c a.heap && gensDone a && laidKept d.heap a.heap with
 |true=>some (openSeen g f (importedModules c.main.body) (λω=>true) true a,e a)
 |false=>none
theorem Cd{a e:WJ}{d:Wy Str}{f:WF->b}{Ya:WG->b}{ann:WA Wz}
 (p:opening a=plainProg a.main.scope.names)(r:Nat.ble 600 c=true)(q:∀i,fenceModules? a i=some i)
 (t:∀P:WC,((boot_heap P).isNs mainGlobals,(boot_heap P).nsMap mainGlobals "__annotations__")=(true,ann))
 (j:∀(g:WG) (h:OsState),(JO a g 11 ann c (yl g.params h) (topStub a)).bind (λi=>atEnd a e d f ⟨boot_heap g.params,#[],boot_drawn,boot_toks,h⟩ i.abs)=some (openGood e d,Ya g)):
  LeftO a e d (λω=>true) f Ya c:=by
 intro g;obtain⟨x,v,o⟩:=Option.map_eq_some_iff.mp (boot_open (p:=a) (N:=c) p r q g);obtain⟨z,y,drawn,A,h⟩:=x;simp only[Prod.mk.injEq]at o;obtain⟨rfl,rfl,rfl,rfl⟩:=o;have j:=j g h;obtain⟨sT,s,m⟩:=Option.bind_eq_some_iff.mp j;have n:=qJ _ _ _ _ s;rw[wI]at n;unfold openEnds;rw[v,Option.bind_some];unfold topFrom;have l:=t g.params;simp only[Prod.mk.injEq]at l;have w:(boot_heap g.params).objs.size=11:=rfl;unfold atEnd at m;simp only[l.1,l.2,w];rw[show(#[]:WD WI).size==0 from rfl,Bool.and_self];simp only[n,Option.bind_some];revert m;cases staticsOk (importedModules a.main.body) (boot_heap g.params) sT.abs.heap && namesBound a sT.abs.heap && gensDone sT.abs && laidKept (boot_heap g.params) sT.abs.heap with
 |false=>intro k;cases k
 |true=>intro k;exact k
end
section
noncomputable def Qj(d:WJ)(f:WG)(c:Nat)(b:WA Wz):Nat->SharedT->Thread->WA SharedT
 |0,_,_=>none
 |n+1,e,a=>match through a with
  |true=>some e
  |false=>match PySem.W.Fast.tw6613529449190102663 c b a with
   |false=>none
   |true=>match PySem.W.Fast.tw10156331382660048174 (PySem.W.Fast.tw11892475500146522536 PySem.W.Fast.tw14364793385576792824) d f e a with
    |some (g,h)=>Qj d f c b n g h
    |none=>none
theorem ym(d:WJ)(f:WG)(c:Nat)(b:WA Wz):∀n e a,JO d f c b n e a=Qj d f c b n e a
 |0,_,_=>rfl
 |n+1,e,a=>by
  unfold JO Qj;rw[<-PySem.W.Fast.te10156331382660048174,<-PySem.W.Fast.te11892475500146522536,<-PySem.W.Fast.te14364793385576792824,<-PySem.W.Fast.te6613529449190102663];cases through a with
  |true=>rfl
  |false=>
   cases stepOk c b a with
   |false=>rfl
   |true=>
    simp only;cases stepT (denote treeTable) d f e a with
    |none=>rfl
    |some g=>exact ym d f c b n _ _
variable {a:Type}
noncomputable def s6(c g:WJ)(f:Wy Str)(e:WF->a)(d b:WF):=match staticsOk (importedModules c.main.body) d.heap b.heap && namesBound c b.heap && gensDone b && laidKept d.heap b.heap with
 |true=>some (PySem.W.Fast.tw4187177175401517315 g f (importedModules c.main.body) (λω=>true) true b,e b)
 |false=>none
theorem wJ(d e:WJ)(c:Wy Str)(b:WF->a)(f g:WF):atEnd d e c b f g=s6 d e c b f g:=by
 unfold atEnd s6;rw[<-PySem.W.Fast.te4187177175401517315]
 try rfl
end
noncomputable def RW:OpenLaw:=PySem.Challenge.rw_jf0025_01
theorem QX:RW.wellSaid=true:=by rw[PySem.W.Fast.te9446332074065402090];kernel_rfl
theorem wK:RW.row.toRowW.promised:=⟨[.list []],by kernel_rfl,by kernel_rfl⟩
noncomputable def S(a:uh):Str:=⟨a.toArray⟩
noncomputable def B(a:uh):WD UInt8:=(a.map Nat.toUInt8).toArray
noncomputable def E(b:WC)(a:Str)(c:Nat)(d:Wz):WL:=⟨PyData.keyHash b a,.str a c,d⟩
noncomputable def zS(a:Str)(b:Nat):Wz:= .str a b
noncomputable def zB(a:WC):Nat->Wy String->Wy WL
 |_,[]=>[]
 |n,b::c=>E a b n (.builtin b)::zB a (n+1) c
noncomputable def zT(a:WC):Nat->Wy String->Wy WL
 |_,[]=>[]
 |n,b::c=>E a b n (.type b)::zT a (n+1) c
noncomputable def zA(b:WC)(c:Wy (Str×Nat×Nat)):Wy WL:=c.map λa=>E b a.1 a.2.1 (.ref a.2.2)
noncomputable def zI(a:Int):Wz:= .int a 0
noncomputable def zR(a:Nat):Wz:= .ref a
noncomputable def rZ:Nat->Wz
 |0=>.none
 |n+1=>.ref (n+1)
noncomputable def cO(b:Str)(i:Nat)(c:Str)(j k:Nat)(a d e f g:Int)(v1 v2 v3 v4 v5 v6:Nat)(h:Int)(l:Nat):gi:=⟨.type "code",none,.fields #[zS b i,zS c j,zS "/claim/cut.py" k,zI a,zI d,zI e,zI f,zI g,rZ v1,.bool true,zI 181,rZ v2,rZ v3,rZ v4,rZ v5,rZ v6,zI h,zI a,zS "/claim/cut.py" l],#[]⟩
noncomputable def inner:Stmt->Wy Stmt
 | .FunctionDef _ _ a .. =>a
 | .ClassDef _ _ _ a .. =>a
 |_=>[]
noncomputable def mj:Wy Stmt->uh->Stmt
 |b,[a]=>(b[a]?).getD (.Pass ⟨0,0,0,0⟩)
 |b,a::c=>mj (inner ((b[a]?).getD (.Pass ⟨0,0,0,0⟩))) c
 |_,[]=>.Pass ⟨0,0,0,0⟩
noncomputable def Ke(i:uh)(k:Str)(d:Wy (Str×Addr))(f g doc j:Wz)(b:WA Addr)(code e:Wz):FuncData:=match mj PW.main.body i with
 | .FunctionDef h a c _ _ _ l .. =>{name:=h,qualname:=k,params:=a,body:= .stmts c,scope:=l,globals:=mainGlobals,closure:=d,defaults:=f,kwdefaults:=g,doc:=doc,pyModule:=j,annotations:=b,code:=code,closureTuple:=e,builtins:=builtinsNs}
 |_=>default
noncomputable def cP(d e:Str)(b:Nat)(f g h:Int)(a:Nat)(c:Nat):gi:=cO d b e (b+1) (b+2) f g 0 0 h a (a+1) 0 (a+2) (a+3) (a+4) c (c+1)
noncomputable def cQ(a:Str)(f:Nat)(b c d:Int)(g e:Nat):gi:=cP a a f b c d g e
noncomputable def fR(c:uh)(e:Str)(b d:Wz)(a:Nat):gi:=⟨.type "function",none,.func (Ke c e [] .none .none b d none (zR a) .none),#[]⟩
noncomputable def fQ(c:uh)(d:Str)(b:Wz)(a:Nat):gi:=fR c d b (zS "dulwich.objects" 309) a
noncomputable def T1(a:WC):gi:=⟨(.type "dict"),none,(.dict ([E a "__name__" 1 (zS "builtins" 160),E a "__doc__" 2 (.builtin "builtins.__doc__:str#opaque"),E a "__package__" 3 (.builtin "builtins.__package__:str#opaque"),E a "__loader__" 4 (.builtin "builtins.__loader__:shared#opaque"),E a "__spec__" 5 (.builtin "builtins.__spec__#opaque")]++zB a 6 ["__build_class__","__\x69mport__","abs","all","any","ascii","bin","breakpoint","callable","chr","compile","delattr","dir","divmod","eval","exec","format","getattr","globals","hasattr","hash","hex","id","input","isinstance","issubclass","iter","aiter","len","locals"]++zB a 36 ["max","min","next","anext","oct","ord","pow","print","repr","round","setattr","sorted","sum","vars"]++[E a "None" 50 .none,E a "Ellipsis" 51 .ellipsis,E a "NotImplemented" 52 .notImplemented,E a "False" 53 (.bool false),E a "True" 54 (.bool true)]++zT a 55 ["bool","memoryview","bytearray","bytes","classmethod","complex","dict","enumerate","filter","float","frozenset","property","int","list","map","object","range","reversed","set","slice","staticmethod","str","super","tuple","type","zip"]++[E a "__debug__" 81 (.bool true)]++zT a 82 ["BaseException","BaseExceptionGroup","Exception","GeneratorExit","KeyboardInterrupt","SystemExit","ArithmeticError","AssertionError","AttributeError","BufferError","EOFError","ImportError","LookupError","MemoryError","NameError","OSError","ReferenceError","RuntimeError","StopAsyncIteration","StopIteration","SyntaxError","SystemError","TypeError","ValueError","Warning","FloatingPointError","OverflowError","ZeroDivisionError","BytesWarning","DeprecationWarning"]++zT a 112 ["EncodingWarning","FutureWarning","ImportWarning","PendingDeprecationWarning","ResourceWarning","RuntimeWarning","SyntaxWarning","UnicodeWarning","UserWarning","BlockingIOError","ChildProcessError","ConnectionError","FileExistsError","FileNotFoundError","InterruptedError","IsADirectoryError","NotADirectoryError","PermissionError","ProcessLookupError","TimeoutError","IndentationError","_IncompleteInputError","IndexError","KeyError","ModuleNotFoundError","NotImplementedError","PythonFinalizationError","RecursionError","UnboundLocalError","UnicodeError"]++zT a 142 ["BrokenPipeError","ConnectionAbortedError","ConnectionRefusedError","ConnectionResetError","TabError","UnicodeDecodeError","UnicodeEncodeError","UnicodeTranslateError","ExceptionGroup"]++[E a "EnvironmentError" 151 (.type "OSError"),E a "IOError" 152 (.type "OSError")]++zB a 153 ["open"]++[E a "quit" 154 (.builtin "builtins.quit#opaque"),E a "exit" 155 (.builtin "builtins.exit#opaque"),E a "copyright" 156 (.builtin "builtins.copyright#opaque"),E a "credits" 157 (.builtin "builtins.credits#opaque"),E a "license" 158 (.builtin "builtins.license#opaque"),E a "help" 159 (.builtin "builtins.help#opaque")]).toArray 159),#[]⟩
noncomputable def Qk(a:WC):gi:=⟨.none,none,(.dict #[E a "type.__subclasses__.Exception.0" 214 (zI 31),E a "type.__subclasses__.Exception.n" 215 (zI 1)] 2),#[]⟩
noncomputable def Ql(a:WC):gi:=⟨(.type "dict"),none,(.dict ([E a "__name__" 165 (zS "law_jf0025_01" 1466),E a "__doc__" 166 .none,E a "__package__" 167 .none,E a "__loader__" 168 (.builtin "__main__.__loader__#opaque"),E a "__spec__" 169 .none]++zA a [("__annotations__",170,6),("__builtins__",171,4)]++[E a "__file__" 173 (zS "/claim/cut.py" 172),E a "__cached__" 174 .none]++zA a [("_wall",193,21),("FileFormatException",217,31),("ObjectFormatException",235,44),("ObjectFormat",285,70),("SHA1",307,76),("DEFAULT_OBJECT_FORMAT",308,76),("_tuplegetter",367,116)]++[E a "S_IFDIR" 369 (.int (16384) 368),E a "S_IFREG" 371 (.int (32768) 370),E a "S_IFLNK" 373 (.int (40960) 372)]++zA a [("S_IFMT",380,127),("S_ISDIR",387,134),("hexlify",393,139),("_digit",400,146),("unhexlify",406,151),("ObjectID",413,158),("RawObjectID",420,165)]++[E a "_TREE_HEADER" 422 (.bytes (B [116,114,101,101]) 421),E a "_PARENT_HEADER" 424 (.bytes (B [112,97,114,101,110,116]) 423),E a "_AUTHOR_HEADER" 426 (.bytes (B [97,117,116,104,111,114]) 425),E a "_COMMITTER_HEADER" 428 (.bytes (B [99,111,109,109,105,116,116,101,114]) 427),E a "_ENCODING_HEADER" 430 (.bytes (B [101,110,99,111,100,105,110,103]) 429),E a "_GPGSIG_HEADER" 432 (.bytes (B [103,112,103,115,105,103]) 431),E a "S_IFGITLINK" 434 (.int (57344) 433),E a "MAX_TIME" 436 (.int (9223372036854775807) 435)]++zA a [("sha_to_hex",445,172),("hex_to_sha",453,179),("valid_hexsha",461,186),("check_hexsha",470,193),("check_identity",481,200),("check_time",489,207),("git_line",498,214),("is_commit",506,221),("is_tree",514,228),("ShaFile",635,311),("Blob",729,389),("_parse_message",746,398),("_format_message",758,405),("TreeEntry",886,476),("parse_tree",906,487),("serialize_tree",917,494),("sorted_tree_items",931,501),("key_entry",942,508),("key_entry_name_order",950,515),("Tree",1086,610),("parse_timezone",1100,619),("format_timezone",1111,627),("parse_time_entry",1128,634),("format_time_entry",1140,641),("_parse_commit",1161,649),("_strip_signature_headers",1173,656),("Commit",1465,888),("_law_zones",1473,897),("_law_people",1479,904),("_law_values",1485,911)]++zA a [("_law_next",1494,918),("_law_state",1500,923),("_law_number",1510,930),("_law_person",1519,937),("_law_entry",1529,944),("_law_rows",1535,949),("_law_refused",1542,956),("_law_spoilt",1552,963),("_law_made",1566,970),("law",1572,975)]).toArray 74),#[]⟩
noncomputable def T2(a:WC):gi:=⟨(.type "module"),(some 0),.plain,#[]⟩
noncomputable def Ce(a:WC):gi:=⟨(.type "dict"),none,(.dict #[E a "__module__" 203 (zS "dulwich.errors" 194),E a "__firstlineno__" 207 (.int (5) 206),E a "__doc__" 209 (zS "Base class for exceptions relating to reading git file formats." 208),E a "__static_attributes__" 211 (zR 29),E a "__weakref__" 213 (zR 32)] 2),#[]⟩
noncomputable def Kf(a:WC):gi:=⟨(.type "type"),none,(.cls {name:= "FileFormatException",bases:=[(.type "Exception")],mro:=[(zR 31),(.type "Exception"),(.type "BaseException"),(.type "object")],ns:=30,qualname:= "FileFormatException",hasDict:=true,slotNames:=[],subclasses:=[(zR 44)],abstract:=false,collection:=none,hasDel:=false}),#[(some (zR 22)),none,(some (zS "FileFormatException" 196)),(some (zS "FileFormatException" 204)),(some (.builtin "Exception.__new__")),(some (.bool true))]⟩
noncomputable def QY(a:WC):gi:=⟨(.type "dict"),none,(.dict #[E a "__module__" 225 (zS "dulwich.errors" 194),E a "__firstlineno__" 229 (.int (7) 228),E a "__doc__" 231 (zS "Indicates an error parsing an object." 230),E a "__static_attributes__" 233 (zR 42)] 1),#[]⟩
noncomputable def Kg(a:WC):gi:=⟨(.type "type"),none,(.cls {name:= "ObjectFormatException",bases:=[(zR 31)],mro:=[(zR 44),(zR 31),(.type "Exception"),(.type "BaseException"),(.type "object")],ns:=43,qualname:= "ObjectFormatException",hasDict:=true,slotNames:=[],subclasses:=[],abstract:=false,collection:=none,hasDel:=false}),#[(some (zR 35)),none,(some (zS "ObjectFormatException" 218)),(some (zS "ObjectFormatException" 226)),(some (.builtin "Exception.__new__")),(some (.bool true))]⟩
noncomputable def Kh(a:WC):gi:=cQ "_digit" 394 62 1 3 140 398
noncomputable def Ki(a:WC):gi:=fQ [16] "_digit" .none 145
noncomputable def Kj(a:WC):gi:=cO "unhexlify" 401 "unhexlify" 402 403 70 1 0 0 3 147 148 0 0 0 149 404 405
noncomputable def Kk(a:WC):gi:=fQ [17] "unhexlify" .none 150
noncomputable def Kl(a:WC):gi:=cQ "ObjectID" 407 74 1 3 152 411
noncomputable def Km(a:WC):gi:=fQ [18] "ObjectID" .none 157
noncomputable def Kn(a:WC):gi:=cQ "valid_hexsha" 454 97 1 3 180 458
noncomputable def Ko(a:WC):gi:=fQ [30] "valid_hexsha" (zS "Check if a hex string is a valid SHA1 or SHA256.\n\nArgs:\n    hex: Hex string to validate\n\nReturns:\n    True if valid SHA1 (40 chars) or SHA256 (64 chars), False otherwise\n" 460) 185
noncomputable def Kp(a:WC):gi:=cQ "check_hexsha" 462 114 2 3 187 467
noncomputable def Kq(a:WC):gi:=fQ [31] "check_hexsha" (zS "Check if a string is a valid hex sha string.\n\nArgs:\n  hex: Hex string to check\n  error_msg: Error message to use in exception\nRaises:\n  ObjectFormatException: Raised when the string is not valid\n" 469) 192
noncomputable def Kr(a:WC):gi:=cQ "check_identity" 471 125 2 3 194 478
noncomputable def Ks(a:WC):gi:=fQ [32] "check_identity" (zS "Check if the specified identity is valid.\n\nThis will raise an exception if the identity is not valid.\n\nArgs:\n  identity: Identity string\n  error_msg: Error message to use in exception\n" 480) 199
noncomputable def Kt(a:WC):gi:=cQ "check_time" 482 140 1 3 201 486
noncomputable def Ku(a:WC):gi:=fQ [33] "check_time" (zS "Check if the specified time is not prone to overflow error.\n\nThis will raise an exception if the time is not valid.\n\nArgs:\n  time_seconds: time in seconds\n\n" 488) 206
noncomputable def Kv(a:WC):gi:=cQ "git_line" 490 151 2 3 208 495
noncomputable def Kw(a:WC):gi:=fQ [34] "git_line" (zS "Formats items into a space separated line." 497) 213
noncomputable def Kx(a:WC):gi:=cQ "is_commit" 499 154 1 3 215 503
noncomputable def Ky(a:WC):gi:=fQ [35] "is_commit" (zS "Check if a ShaFile is a Commit." 505) 220
noncomputable def Kz(a:WC):gi:=cQ "is_tree" 507 157 1 3 222 511
noncomputable def KA(a:WC):gi:=fQ [36] "is_tree" (zS "Check if a ShaFile is a Tree." 513) 227
noncomputable def KC(a:WC):gi:=cP "__init__" "ShaFile.__init__" 530 163 1 3 236 534
noncomputable def FK(a:WC):gi:=fQ [37,1] "ShaFile.__init__" (zS "Initialize a ShaFile." 536) 241
noncomputable def KD(a:WC):gi:=cP "as_raw_chunks" "ShaFile.as_raw_chunks" 538 170 1 3 243 542
noncomputable def KG(a:WC):gi:=fQ [37,2] "ShaFile.as_raw_chunks" (zS "Return chunks with serialization of the object.\n\nReturns: List of strings, not necessarily one per line\n" 544) 248
noncomputable def KH(a:WC):gi:=cP "as_raw_string" "ShaFile.as_raw_string" 546 182 1 3 250 550
noncomputable def KI(a:WC):gi:=fQ [37,3] "ShaFile.as_raw_string" (zS "Return raw string with serialization of the object.\n\nReturns: String object\n" 552) 255
noncomputable def KJ(a:WC):gi:=cP "set_raw_string" "ShaFile.set_raw_string" 554 189 2 3 257 559
noncomputable def KL(a:WC):gi:=fQ [37,4] "ShaFile.set_raw_string" (zS "Set the contents of this object from a serialized string." 561) 262
noncomputable def KN(a:WC):gi:=cP "set_raw_chunks" "ShaFile.set_raw_chunks" 563 195 2 3 264 568
noncomputable def KO(a:WC):gi:=fQ [37,5] "ShaFile.set_raw_chunks" (zS "Set the contents of this object from a list of chunks." 570) 269
noncomputable def KP(a:WC):gi:=cP "from_string" "ShaFile.from_string" 572 202 2 3 271 578
noncomputable def KQ(a:WC):gi:=⟨(.type "function"),none,(.func (Ke [37,6] "ShaFile.from_string" [] .none .none (zS "Create a ShaFile from a string." 580) (zS "dulwich.objects" 309) (some 280) (zR 276) .none)),#[]⟩
noncomputable def KR(a:WC):gi:=⟨(.type "classmethod"),(some 278),(.fields #[(zR 277),(.bool false)]),#[]⟩
noncomputable def KS(a:WC):gi:=cP "copy" "ShaFile.copy" 608 215 1 3 295 613
noncomputable def KU(a:WC):gi:=fQ [37,9] "ShaFile.copy" (zS "Create a new copy of this SHA1 object from its raw string." 615) 300
noncomputable def yn(a:WC):gi:=⟨(.type "dict"),none,(.dict ([E a "__module__" 522 (zS "dulwich.objects" 309),E a "__firstlineno__" 526 (.int (160) 525),E a "__doc__" 528 (zS "A git SHA file." 527)]++zA a [("__init__",537,242),("as_raw_chunks",545,249),("as_raw_string",553,256),("set_raw_string",562,263),("set_raw_chunks",571,270),("from_string",593,279),("_header",600,287),("raw_length",607,294),("copy",616,301),("get_id",624,308),("__static_attributes__",629,309),("__dict__",631,312),("__weakref__",633,313)]).toArray 3),#[]⟩
noncomputable def yo(a:WC):gi:=⟨(.type "type"),none,(.cls {name:= "ShaFile",bases:=[(.type "object")],mro:=[(zR 311),(.type "object")],ns:=310,qualname:= "ShaFile",hasDict:=true,slotNames:=[],subclasses:=[(zR 389),(zR 610),(zR 888)],abstract:=false,collection:=none,hasDel:=false}),#[none,none,(some (zS "ShaFile" 515)),(some (zS "ShaFile" 523)),(some (.builtin "object.__new__")),(some (.bool true))]⟩
noncomputable def KV(a:WC):gi:=⟨.none,none,(.fields #[]),#[]⟩
noncomputable def FL(a:WC):gi:=cQ "_parse_message" 730 268 1 35 392 743
noncomputable def KW(a:WC):gi:=fQ [39] "_parse_message" (zS "Parse a message with a list of fields and a body.\n\nArgs:\n  chunks: the raw chunks of the tag or commit object.\nReturns: iterator of tuples of (field, value), one per header line, in the\n    order read from the text, possibly including duplicates. Includes a\n    field named None for the freeform tag/commit text.\n" 745) 397
noncomputable def KX(a:WC):gi:=cQ "_format_message" 747 309 2 35 399 756
noncomputable def KY(a:WC):gi:=fQ [40] "_format_message" .none 404
noncomputable def KZ(a:WC):gi:=cQ "parse_timezone" 1087 532 1 3 613 1097
noncomputable def K0(a:WC):gi:=fQ [48] "parse_timezone" (zS "Parse a timezone text fragment (e.g. '+0100').\n\nArgs:\n  text: Text to parse.\nReturns: Tuple with timezone as seconds difference to UTC\n    and a boolean indicating whether this was a UTC timezone\n    prefixed with a negative sign (-0000).\n" 1099) 618
noncomputable def K1(a:WC):gi:=⟨(.type "tuple"),none,(.seq #[(.bool false)] 0),#[]⟩
noncomputable def K2(a:WC):gi:=cQ "format_timezone" 1101 553 2 3 621 1108
noncomputable def K3(a:WC):gi:=⟨(.type "function"),none,(.func (Ke [49] "format_timezone" [] (zR 620) .none (zS "Format a timezone for Git serialization.\n\nArgs:\n  offset: Timezone offset as seconds difference to UTC\n  unnecessary_negative_timezone: Whether to use a minus sign for\n    UTC or positive timezones (-0000 and --700 rather than +0000 / +0700).\n" 1110) (zS "dulwich.objects" 309) none (zR 626) .none)),#[]⟩
noncomputable def K4(a:WC):gi:=cQ "parse_time_entry" 1112 570 1 3 628 1125
noncomputable def K5(a:WC):gi:=fQ [50] "parse_time_entry" (zS "Parse event.\n\nArgs:\n  value: Bytes representing a git commit/tag line\nRaises:\n  ObjectFormatException in case of parsing error (malformed\n  field date)\nReturns: Tuple of (author, time, (timezone, timezone_neg_utc))\n" 1127) 633
noncomputable def K6(a:WC):gi:=cQ "format_time_entry" 1129 593 3 3 635 1137
noncomputable def K7(a:WC):gi:=fQ [51] "format_time_entry" (zS "Format an event." 1139) 640
noncomputable def K8(a:WC):gi:=⟨(.type "tuple"),none,(.seq #[(.bytes (B [103,112,103,115,105,103]) 431)] 0),#[]⟩
noncomputable def K9(a:WC):gi:=cQ "_parse_commit" 1141 597 2 3 643 1158
noncomputable def La(a:WC):gi:=⟨(.type "function"),none,(.func (Ke [52] "_parse_commit" [] (zR 642) .none (zS "Parse a commit object from chunks.\n\nWhere a header is repeated, the first tree, author, committer and\nencoding are used, and only the parents directly following the tree.\nRepeated signature headers are concatenated.\n\nArgs:\n  chunks: Chunks to parse\n  signature_header: Name of the signature header for the hash algorithm\nReturns: Tuple of (tree, parents, author_info, commit_info,\n    encoding, mergetag, gpgsig, message, extra)\n" 1160) (zS "dulwich.objects" 309) none (zR 648) .none)),#[]⟩
noncomputable def Lb(a:WC):gi:=cQ "_strip_signature_headers" 1162 661 1 3 650 1170
noncomputable def Lc(a:WC):gi:=fQ [53] "_strip_signature_headers" (zS "Return the commit payload covered by a signature.\n\nThis drops every header starting with \"gpgsig\" (both ``gpgsig`` and\n``gpgsig-sha256``) along with their continuation lines.\n" 1172) 655
noncomputable def Ld(a:WC):gi:=⟨(.type "cell"),none,(.cell (some (zR 888))),#[]⟩
noncomputable def Le(a:WC):gi:=cP "__init__" "Commit.__init__" 1193 691 1 3 666 1198
noncomputable def Lf(a:WC):gi:=⟨(.type "function"),none,(.func (Ke [54,3] "Commit.__init__" [("__class__",660)] .none .none (zS "Initialize an empty Commit." 1200) (zS "dulwich.objects" 309) none (zR 671) (zR 665))),#[]⟩
noncomputable def Lg(a:WC):gi:=cO "_deserialize" 1202 "Commit._deserialize" 1203 1204 701 2 0 0 3 673 674 0 0 0 675 1205 1206
noncomputable def Lh(a:WC):gi:=fQ [54,4] "Commit._deserialize" .none 676
noncomputable def Li(a:WC):gi:=cP "check" "Commit.check" 1208 712 1 3 678 1216
noncomputable def Lj(a:WC):gi:=fQ [54,5] "Commit.check" (zS "Check this object for internal consistency.\n\nRaises:\n  ObjectFormatException: if the object is malformed in some way\n" 1218) 683
noncomputable def Lk(a:WC):gi:=cP "raw_without_sig" "Commit.raw_without_sig" 1220 755 1 3 685 1224
noncomputable def Ll(a:WC):gi:=fQ [54,6] "Commit.raw_without_sig" (zS "Return raw string serialization without the GPG/SSH signature.\n\nself.gpgsig is a signature for the returned raw byte string serialization.\n" 1226) 690
noncomputable def Lm(a:WC):gi:=⟨.none,none,(.fields #[]),#[]⟩
noncomputable def FM(a:WC):gi:=cP "_serialize" "Commit._serialize" 1228 762 1 3 692 1234
noncomputable def Ln(a:WC):gi:=fQ [54,7] "Commit._serialize" .none 697
noncomputable def Lo(a:WC):gi:=cP "tree" "Commit.tree" 1237 785 1 3 699 1241
noncomputable def Lp(a:WC):gi:=fQ [54,8] "Commit.tree" (zS "Tree that is the state of this commit" 1243) 704
noncomputable def Lq(a:WC):gi:=cP "tree" "Commit.tree" 1247 790 2 3 708 1252
noncomputable def Lr(a:WC):gi:=fQ [54,9] "Commit.tree" .none 713
noncomputable def Ls(a:WC):gi:=⟨(.type "property"),none,(.fields #[(zR 705),(zR 714),.none,(zS "Tree that is the state of this commit" 1243),(zS "tree" 1245),(.bool true)]),#[]⟩
noncomputable def Lu(a:WC):gi:=cP "parents" "Commit.parents" 1256 795 1 3 716 1260
noncomputable def Lv(a:WC):gi:=fQ [54,10] "Commit.parents" (zS "Parents of this commit, by their SHA1." 1262) 721
noncomputable def Lw(a:WC):gi:=cP "parents" "Commit.parents" 1266 800 2 3 725 1271
noncomputable def Lx(a:WC):gi:=fQ [54,11] "Commit.parents" (zS "Set a list of parents of this commit." 1273) 730
noncomputable def Ly(a:WC):gi:=⟨(.type "property"),none,(.fields #[(zR 722),(zR 731),.none,(zS "Parents of this commit, by their SHA1." 1262),(zS "parents" 1264),(.bool true)]),#[]⟩
noncomputable def Lz(a:WC):gi:=cP "author" "Commit.author" 1276 806 1 3 733 1280
noncomputable def LA(a:WC):gi:=fQ [54,12] "Commit.author" (zS "The name of the author of the commit" 1282) 738
noncomputable def LB(a:WC):gi:=cP "author" "Commit.author" 1286 811 2 3 742 1291
noncomputable def LD(a:WC):gi:=fQ [54,13] "Commit.author" .none 747
noncomputable def LF(a:WC):gi:=⟨(.type "property"),none,(.fields #[(zR 739),(zR 748),.none,(zS "The name of the author of the commit" 1282),(zS "author" 1284),(.bool true)]),#[]⟩
noncomputable def LG(a:WC):gi:=cP "committer" "Commit.committer" 1295 816 1 3 750 1299
noncomputable def LH(a:WC):gi:=fQ [54,14] "Commit.committer" (zS "The name of the committer of the commit" 1301) 755
noncomputable def LI(a:WC):gi:=cP "committer" "Commit.committer" 1305 821 2 3 759 1310
noncomputable def LJ(a:WC):gi:=fQ [54,15] "Commit.committer" .none 764
noncomputable def LK(a:WC):gi:=⟨(.type "property"),none,(.fields #[(zR 756),(zR 765),.none,(zS "The name of the committer of the commit" 1301),(zS "committer" 1303),(.bool true)]),#[]⟩
noncomputable def LL(a:WC):gi:=cP "message" "Commit.message" 1314 826 1 3 767 1318
noncomputable def LM(a:WC):gi:=fQ [54,16] "Commit.message" (zS "The commit message" 1320) 772
noncomputable def LN(a:WC):gi:=cP "message" "Commit.message" 1324 831 2 3 776 1329
noncomputable def LO(a:WC):gi:=fQ [54,17] "Commit.message" .none 781
noncomputable def LQ(a:WC):gi:=⟨(.type "property"),none,(.fields #[(zR 773),(zR 782),.none,(zS "The commit message" 1320),(zS "message" 1322),(.bool true)]),#[]⟩
noncomputable def LR(a:WC):gi:=cP "commit_time" "Commit.commit_time" 1333 836 1 3 784 1337
noncomputable def LS(a:WC):gi:=fQ [54,18] "Commit.commit_time" (zS "The timestamp of the commit." 1339) 789
noncomputable def LU(a:WC):gi:=cP "commit_time" "Commit.commit_time" 1343 841 2 3 793 1348
noncomputable def LV(a:WC):gi:=fQ [54,19] "Commit.commit_time" .none 798
noncomputable def LW(a:WC):gi:=⟨(.type "property"),none,(.fields #[(zR 790),(zR 799),.none,(zS "The timestamp of the commit." 1339),(zS "commit_time" 1341),(.bool true)]),#[]⟩
noncomputable def LX(a:WC):gi:=cP "commit_timezone" "Commit.commit_timezone" 1352 846 1 3 801 1356
noncomputable def LY(a:WC):gi:=fQ [54,20] "Commit.commit_timezone" (zS "The zone the commit time is in" 1358) 806
noncomputable def LZ(a:WC):gi:=cP "commit_timezone" "Commit.commit_timezone" 1362 851 2 3 810 1367
noncomputable def L0(a:WC):gi:=fQ [54,21] "Commit.commit_timezone" .none 815
noncomputable def L1(a:WC):gi:=⟨(.type "property"),none,(.fields #[(zR 807),(zR 816),.none,(zS "The zone the commit time is in" 1358),(zS "commit_timezone" 1360),(.bool true)]),#[]⟩
noncomputable def L3(a:WC):gi:=cP "author_time" "Commit.author_time" 1371 856 1 3 818 1375
noncomputable def L4(a:WC):gi:=fQ [54,22] "Commit.author_time" (zS "The timestamp the commit was written." 1377) 823
noncomputable def L5(a:WC):gi:=cP "author_time" "Commit.author_time" 1381 861 2 3 827 1386
noncomputable def L6(a:WC):gi:=fQ [54,23] "Commit.author_time" .none 832
noncomputable def L7(a:WC):gi:=⟨(.type "property"),none,(.fields #[(zR 824),(zR 833),.none,(zS "The timestamp the commit was written." 1377),(zS "author_time" 1379),(.bool true)]),#[]⟩
noncomputable def L8(a:WC):gi:=cP "author_timezone" "Commit.author_timezone" 1390 866 1 3 835 1394
noncomputable def L9(a:WC):gi:=fQ [54,24] "Commit.author_timezone" (zS "Returns the zone the author time is in." 1396) 840
noncomputable def Ma(a:WC):gi:=cP "author_timezone" "Commit.author_timezone" 1400 871 2 3 844 1405
noncomputable def Mb(a:WC):gi:=fQ [54,25] "Commit.author_timezone" .none 849
noncomputable def Mc(a:WC):gi:=⟨(.type "property"),none,(.fields #[(zR 841),(zR 850),.none,(zS "Returns the zone the author time is in." 1396),(zS "author_timezone" 1398),(.bool true)]),#[]⟩
noncomputable def Md(a:WC):gi:=cP "encoding" "Commit.encoding" 1409 876 1 3 852 1413
noncomputable def Me(a:WC):gi:=fQ [54,26] "Commit.encoding" (zS "Encoding of the commit message." 1415) 857
noncomputable def Mf(a:WC):gi:=cP "encoding" "Commit.encoding" 1419 881 2 3 861 1424
noncomputable def Mg(a:WC):gi:=fQ [54,27] "Commit.encoding" .none 866
noncomputable def Mh(a:WC):gi:=⟨(.type "property"),none,(.fields #[(zR 858),(zR 867),.none,(zS "Encoding of the commit message." 1415),(zS "encoding" 1417),(.bool true)]),#[]⟩
noncomputable def Mi(a:WC):gi:=cP "gpgsig" "Commit.gpgsig" 1428 886 1 3 869 1432
noncomputable def Mj(a:WC):gi:=fQ [54,28] "Commit.gpgsig" (zS "GPG Signature." 1434) 874
noncomputable def Mk(a:WC):gi:=cP "gpgsig" "Commit.gpgsig" 1438 891 2 3 878 1443
noncomputable def Ml(a:WC):gi:=fQ [54,29] "Commit.gpgsig" .none 883
noncomputable def Mm(a:WC):gi:=⟨(.type "property"),none,(.fields #[(zR 875),(zR 884),.none,(zS "GPG Signature." 1434),(zS "gpgsig" 1436),(.bool true)]),#[]⟩
noncomputable def Mn(a:WC):gi:=⟨(.type "dict"),none,(.dict ([E a "__module__" 1181 (zS "dulwich.objects" 309),E a "__firstlineno__" 1185 (.int (686) 1184),E a "__doc__" 1187 (zS "A git commit object." 1186),E a "type_name" 1190 (.bytes (B [99,111,109,109,105,116]) 1189),E a "type_num" 1192 (.int (1) 1191)]++zA a [("__init__",1201,672),("_deserialize",1207,677),("check",1219,684),("raw_without_sig",1227,691),("_serialize",1236,698),("tree",1245,715),("parents",1264,732),("author",1284,749),("committer",1303,766),("message",1322,783),("commit_time",1341,800),("commit_timezone",1360,817),("author_time",1379,834),("author_timezone",1398,851),("encoding",1417,868),("gpgsig",1436,885),("__static_attributes__",1462,886)]).toArray 2),#[]⟩
noncomputable def u7(a:WC):gi:=⟨(.type "type"),none,(.cls {name:= "Commit",bases:=[(zR 311)],mro:=[(zR 888),(zR 311),(.type "object")],ns:=887,qualname:= "Commit",hasDict:=true,slotNames:=[],subclasses:=[],abstract:=false,collection:=none,hasDel:=false}),#[(some (zR 657)),none,(some (zS "Commit" 1174)),(some (zS "Commit" 1182)),(some (.builtin "object.__new__")),(some (.bool true))]⟩
noncomputable def Mo(a:WC):gi:=cQ "_law_zones" 1468 896 0 3 891 1471
noncomputable def Mp(a:WC):gi:=fR [56] "_law_zones" .none (zS "law_jf0025_01" 1466) 896
noncomputable def Mq(a:WC):gi:=cQ "_law_people" 1474 898 0 3 898 1477
noncomputable def Mr(a:WC):gi:=fR [57] "_law_people" .none (zS "law_jf0025_01" 1466) 903
noncomputable def Ms(a:WC):gi:=cQ "_law_values" 1480 900 0 3 905 1483
noncomputable def Mt(a:WC):gi:=fR [58] "_law_values" .none (zS "law_jf0025_01" 1466) 910
noncomputable def Mu(a:WC):gi:=cQ "_law_next" 1486 902 2 3 912 1492
noncomputable def Mv(a:WC):gi:=fR [59] "_law_next" .none (zS "law_jf0025_01" 1466) 917
noncomputable def Mw(a:WC):gi:=cO "_law_state" 1495 "_law_state" 1496 1497 908 1 0 0 3 919 920 0 0 0 921 1498 1499
noncomputable def Mx(a:WC):gi:=fR [60] "_law_state" .none (zS "law_jf0025_01" 1466) 922
noncomputable def My(a:WC):gi:=cQ "_law_number" 1501 910 1 3 924 1508
noncomputable def Mz(a:WC):gi:=fR [61] "_law_number" .none (zS "law_jf0025_01" 1466) 929
noncomputable def MA(a:WC):gi:=cQ "_law_person" 1511 915 1 3 931 1517
noncomputable def MB(a:WC):gi:=fR [62] "_law_person" .none (zS "law_jf0025_01" 1466) 936
noncomputable def MC(a:WC):gi:=cQ "_law_entry" 1520 919 1 3 938 1527
noncomputable def ME(a:WC):gi:=fR [63] "_law_entry" .none (zS "law_jf0025_01" 1466) 943
noncomputable def MF(a:WC):gi:=cO "_law_rows" 1530 "_law_rows" 1531 1532 922 2 0 0 3 945 946 0 0 0 947 1533 1534
noncomputable def MG(a:WC):gi:=fR [64] "_law_rows" .none (zS "law_jf0025_01" 1466) 948
noncomputable def MH(a:WC):gi:=cQ "_law_refused" 1536 924 1 3 950 1540
noncomputable def MI(a:WC):gi:=fR [65] "_law_refused" .none (zS "law_jf0025_01" 1466) 955
noncomputable def MJ(a:WC):gi:=cQ "_law_spoilt" 1543 930 3 3 957 1550
noncomputable def MK(a:WC):gi:=fR [66] "_law_spoilt" .none (zS "law_jf0025_01" 1466) 962
noncomputable def ML(a:WC):gi:=cQ "_law_made" 1553 951 7 3 964 1564
noncomputable def MN(a:WC):gi:=fR [67] "_law_made" .none (zS "law_jf0025_01" 1466) 969
noncomputable def MO(a:WC):gi:=⟨.none,none,(.fields #[]),#[]⟩
noncomputable def FN(a:WC):gi:=cO "law" 1567 "law" 1568 1569 961 1 0 0 3 971 972 0 0 0 973 1570 1571
noncomputable def MP(a:WC):gi:=fR [68] "law" .none (zS "law_jf0025_01" 1466) 974
noncomputable def zU(a:gi):KT:= .node (some a) .nil .nil
noncomputable def zP(a:KT):KT:= .node none .nil a
noncomputable def zN(a b:KT):KT:= .node none a b
noncomputable def zY(c:gi)(a b:KT):KT:= .node (some c) a b
noncomputable def kt(a:WC):KT:=(zY (T1 a) (zN (zY (Ql a) (zN (zN (zY (Kf a) (zN (zN (zU (KH a)) .nil) .nil) (zN (zN (zP (zU (LV a))) (zN (zU (Le a)) .nil)) .nil)) (zN (zN (zN (zP (zU (LQ a))) (zN (zU (Lb a)) (zU (Mt a)))) (zY (Ku a) .nil (zP (zU (MP a))))) (zN (zN (zP (zU (LZ a))) (zP (zU (MC a)))) .nil))) (zN (zN (zN (zN (zU (KL a)) (zP (zU (Mq a)))) (zU (Kr a))) (zN (zN (zP (zU (LY a))) .nil) .nil)) (zN (zN (zY (Kk a) (zU (KR a)) .nil) .nil) (zN (zN (zY (yo a) .nil (zU (L3 a))) .nil) (zN (zP (zU (Mn a))) .nil))))) (zN (zN (zN (zP (zP (zP (zU (MK a))))) (zP (zY (Kz a) (zP (zU (Mg a))) (zN (zU (LA a)) .nil)))) (zN (zP (zN (zP (zU (Mc a))) .nil)) (zN (zP (zN (zU (Ll a)) .nil)) (zN (zN (zU (K3 a)) (zU (Mk a))) (zN (zU (LG a)) .nil))))) (zN (zY (QY a) (zP (zP (zN (zU (Ls a)) .nil))) (zN (zP (zN (zU (Li a)) .nil)) (zN (zN (zU (K0 a)) (zU (Mj a))) (zN (zU (LB a)) .nil)))) (zN (zN (zP (zP (zU (Mx a)))) (zP (zN (zU (Lx a)) .nil))) (zN (zP (zP (zU (MH a)))) .nil))))) (zN (zN (zN (zN (zN (zP (zN (zU (K7 a)) (zU (Mp a)))) (zY (Kq a) (zP (zU (L6 a))) (zN (zU (Lp a)) .nil))) (zN (zP (zP (zU (My a)))) .nil)) (zN (zN (zU (Kh a)) (zN (zP (zU (Ma a))) (zN (zU (Lu a)) .nil))) (zN (zN (zP (zU (L1 a))) .nil) (zU (KC a))))) (zN (zN (zN (zP (zN (zU (La a)) .nil)) (zN (zP (zU (L9 a))) (zN (zU (Lq a)) (zU (ML a))))) (zN (zP (zP (zU (MB a)))) .nil)) (zN (zP (zN (zP (zU (Md a))) .nil)) (zN (zY (Kn a) .nil (zN (zU (FM a)) .nil)) (zY (KG a) (zN (zU (K4 a)) .nil) .nil))))) (zN (zN (zN (zN (zN (zP (zU (LM a))) .nil) .nil) (zN (zP (zN (zU (Lh a)) .nil)) .nil)) (zN (zN (zN (zY (KQ a) .nil (zU (LR a))) (zY (KY a) .nil (zU (Mu a)))) (zU (Kv a))) (zN (zP (zP (zU (MG a)))) (zN (zP (zU (Mm a))) .nil)))) (zN (zN (zN (zN (zY (KN a) .nil (zU (LN a))) (zU (FL a))) .nil) (zN (zN (zU (KU a)) .nil) (zP (zN (zU (LF a)) .nil)))) (zN (zN (zU (Kl a)) (zU (Ky a))) (zP (zP (zN (zU (LJ a)) .nil)))))))) (zY (Qk a) (zY (T2 a) (zN (zN (zN (zN (zN (zU (KI a)) (zN (zU (K6 a)) (zU (Mo a)))) (zY (Kp a) (zP (zU (L5 a))) (zN (zU (Lo a)) .nil))) (zN (zN (zP (zU (LW a))) (zN (zU (Lf a)) .nil)) .nil)) (zN (zN (zP (zN (zU (Lc a)) .nil)) .nil) (zN (zN (zP (zU (L0 a))) (zP (zU (ME a)))) .nil))) (zN (zN (zN (zP (zN (zU (K9 a)) (zU (Mr a)))) (zY (Ks a) (zP (zU (L8 a))) .nil)) (zN (zP (zP (zU (MA a)))) .nil)) (zP (zN (zN (zP (zU (L4 a))) .nil) (zY (KD a) (zP (zU (u7 a))) .nil))))) (zN (zN (zN (zN (zN (zP (zU (LL a))) .nil) .nil) (zN (zP (zN (zU (Lg a)) .nil)) (zY (KA a) (zP (zU (Mh a))) .nil))) (zN (zN (zN (zU (KP a)) (zY (KX a) (zU (Ld a)) .nil)) .nil) (zN (zP (zP (zU (MF a)))) (zN (zP (zU (Ml a))) (zN (zU (LH a)) .nil))))) (zN (zY (Kg a) .nil (zN (zN (zU (KS a)) (zN (zU (Lj a)) .nil)) (zN (zN (zU (K1 a)) .nil) (zN (zU (LD a)) .nil)))) (zN (zP (zY (Kx a) .nil (zN (zU (Ly a)) .nil))) (zN (zP (zP (zU (MI a)))) (zP (zN (zU (LI a)) .nil))))))) (zN (zN (zN (zN (zN (zP (zN (zU (K8 a)) .nil)) (zN (zP (zU (L7 a))) (zP (zU (MJ a))))) (zN (zP (zP (zU (Mz a)))) (zN (zP (zU (Mf a))) (zN (zU (Lz a)) .nil)))) (zN (zN (zU (Ki a)) (zN (zP (zU (Mb a))) (zN (zU (Lv a)) .nil))) (zN (zP (zN (zU (Lk a)) .nil)) (zY (FK a) (zN (zU (K2 a)) .nil) .nil)))) (zN (zN (zP (zP (zN (zU (Lr a)) (zU (MN a))))) (zP (zN (zN (zU (KZ a)) (zU (Mi a))) .nil))) (zN (zN (zP (zP (zU (Mw a)))) (zN (zP (zU (Me a))) (zN (zU (Lw a)) .nil))) (zN (zY (Ko a) .nil (zN (zU (Ln a)) .nil)) (zN (zN (zU (K5 a)) .nil) .nil))))) (zN (zN (zN (zN (zN (zU (KJ a)) .nil) .nil) (zN (zN (zP (zU (LX a))) .nil) .nil)) (zN (zN (zY (Kj a) (zP (zU (LS a))) (zP (zU (Mv a)))) (zU (Kw a))) (zN (zN (zU (yn a)) .nil) .nil))) (zY (Ce a) (zN (zN (zN (zY (KO a) .nil (zU (LO a))) (zY (KW a) .nil (zU (Ms a)))) (zY (Kt a) .nil (zP (zU (FN a))))) .nil) (zN (zN (zY (Km a) (zP (zU (LU a))) .nil) .nil) (zP (zP (zN (zU (LK a)) .nil)))))))))
noncomputable def MQ:uh:=[0,3,31,255,799,671,783,655,911,207,975,815,943,263,903,199,807,151,279,311,823,887,963,227,867,739,851,691,627,883,755,43,715,683,619,875,747,923,731,955,641,897,193,833,705,929,145,849,721,817,241,649,841,713,969,937,857,185,697,249,633,773,677,277,789,405,917,213,949,885,269,781,397,301,749,157,221,765,2,4,256,640,896,192,832,704,800,672,656,816,944,648,904,200,840,936,824,248,888,772,676,228,868,276,404,660,948,884,756,44,300,684,620,748,220,732,956,764,642,834,962,930,866,738,146,850,722,690,242,626,714,970,618,874,922,858,730,186,698,634,262,806,150,790,918,214,310,30,270,782,398,910,206,974,158,798,766]
variable {D:Bool}
section
structure aF where
 addr:Nat
 obj:gi
 fr:Bool
noncomputable def ea(a:gi)(b:WD (WA Wz)):gi:=⟨a.cls,a.dict,a.data,b⟩
noncomputable def ew(a:gi):Bool:=match a.data with
 | .fields _=>false
 |_=>true
noncomputable abbrev dh:=WD UInt8×WD UInt8
structure jz where
 xs:ug
 rows:Wy dh
noncomputable def yp(a:dh)(d e b:Nat)(c:WD (WA Wz)):gi:=⟨.type "tuple",none,.seq #[.bytes a.1 d,.bytes a.2 e] b,c⟩
noncomputable def XK:(c:Wz)->WA {d:Unit//c= .type "tuple"}
 | .type b=>match PySem.W.S.strDecS b "tuple" with
  | .isTrue a=>some ⟨(),by rw[a]⟩
  | .isFalse _=>none
 |_=>none
noncomputable def W7:(e:ui)->WA {c:dh// ∃a b,e=[.bytes c.1 a,.bytes c.2 b]}
 |[.bytes d a,.bytes f b]=>some ⟨(d,f),a,b,rfl⟩
 |_=>none
noncomputable def XM:(c:Wz)->(g:WA Addr)->(i:Data)->WA {a:dh// ∃e f d,(⟨c,g,i,#[]⟩:gi)=yp a e f d #[]}
 |c,none,.seq ⟨j⟩ d=>match XK c with
  |some b=>match W7 j with
   |some a=>some ⟨a.1,by obtain⟨_,b⟩:=b;obtain⟨⟨k,l⟩,e,f,h⟩:=a;subst b h;exact⟨e,f,d,rfl⟩⟩
   |none=>none
  |none=>none
 |_,_,_=>none
variable {a:Type}
noncomputable def W8{b:a->Prop}:WA {d//b d}->WA a
 |some c=>some c.1
 |none=>none
theorem wS{b:a->Prop}{c:WA {c//b c}}{d:a}(e:W8 c=some d):b d:=by
 cases c with
 |none=>cases e
 |some f=>cases e;exact f.2
noncomputable def hQ(a:gi):WA dh:=W8 (XM a.cls a.dict a.data)
noncomputable def oC(a:gi):Bool:=match hQ a with
 |some _=>true
 |none=>false
noncomputable def cy(b:Nat->a):Nat->a:=λc=>b (Nat.succ c)
noncomputable def cn{a:Type}:Nat->(Nat->a)->Nat->a
 |0,b=>b
 |n+1,b=>cy (cn n b)
inductive f8 where
 |cells (js:uh)
 |UO (j:Nat)
 |app (a b:f8)
inductive g8 where
 |n (a b:Nat)
 |bu (a b:jz)
 |st (f:Nat->Nat)
 |c (a b:Code)
 |o (a b:gi)
 |g (a b:WI)
 |f (a b:Wy WM)
 |v (a b:Wz)
noncomputable def g8.ok:g8->Prop
 | .n a b=>a=b
 | .bu a b=>a=b
 | .st _=>True
 | .c a b=>a=b
 | .o a b=>a=b
 | .g a b=>a=b
 | .f a b=>a=b
 | .v a b=>a=b
noncomputable def g8.lf:g8->g8
 | .n a _=>.n a a
 | .bu a _=>.bu a a
 | .st b=>.st b
 | .c a _=>.c a a
 | .o a _=>.o a a
 | .g a _=>.g a a
 | .f a _=>.f a a
 | .v a _=>.v a a
theorem g8.Wi{a:g8}(b:a.lf=a):a.ok:=by cases a<;>first|trivial|(injection b)
noncomputable abbrev AL:=Nat->Nat
noncomputable abbrev SL:=Nat->WD (WA Wz)
noncomputable abbrev nn{b c:Type}:a->b->Wy c:=λω ω=>[]
structure mw where
 pre:Wy aF
 UR:Wy (Nat×WI)
 post:AL->SL->uk
 UQ:AL->SL->Wy WI
 new:AL->SL->Wy aF
 UW:AL->SL->Wy (Nat×WI)
 UX:Wy jz
 US:AL->SL->Wy jz
structure Spec where
 code:Code
 dep:Nat
 top:WA Nat
 UM:mw
 res:AL->SL->WH
structure Seg where
 code:Code
 start:WA (Sem PySem.Fin)
 fs:Wy WM
 (fr dep:Nat)
 UM:mw
 res:AL->SL->End
structure yq where
 spec:Code->uk->Wy AL->Spec
 (pos Ve:uh)
 src:Wy f8
structure mQ where
 seg:Code->uk->Wy AL->Seg
 (pos Ve:uh)
 src:Wy f8
structure St where
 led:Wy aF
 gl:Wy (Nat×WI)
 al:AL
 sl:SL
 UT:uh
 use:Wy yq
 UN:Wy mQ
 bl:Wy jz
 lg:Wy g8
noncomputable def St.w(a:St)(b:AL)(c:SL):St:=⟨a.led,a.gl,b,c,a.UT,a.use,a.UN,a.bl,a.lg⟩
noncomputable def cons(b:a)(c:Nat->a):Nat->a
 |0=>b
 |n+1=>c n
noncomputable def dI(b:Nat->a):Nat->a:=λc=>b (Nat.mul 2 c)
noncomputable def odd(b:Nat->a):Nat->a:=λc=>b (Nat.succ (Nat.mul 2 c))
noncomputable def mR(c d:Nat->a):Nat->a:=λb=>if b % 2=0 then c (b/2)else d (b/2)
theorem ln(c d:Nat->a):dI (mR c d)=c:=by funext b;refine(?_:(if 2*b % 2=0 then c (2*b/2)else d (2*b/2))=c b);rw[if_pos (by lia),show 2*b/2=b by lia]
theorem lr(d c:Nat->a):odd (mR d c)=c:=by funext b;refine(?_:(if(2*b+1) % 2=0 then d ((2*b+1)/2)else c ((2*b+1)/2))=c b);rw[if_neg (by lia),show(2*b+1)/2=b by lia]
structure wL where
 v:Wz
 n:Str
 (x c:Expr)
 (hp rp:Pos)
 env:Env
noncomputable def wL.YQ(a:wL):Code:= .handlers a.v [.ExceptHandler none (some a.n) [.Raise (some a.x) (some a.c) a.rp] a.hp] a.env
noncomputable def Qm:(a:Code)->WA {h:wL//a=h.YQ}
 | .handlers f [.ExceptHandler none (some d) [.Raise (some g) (some a) e] c] b=>some ⟨⟨f,d,g,a,c,e,b⟩,rfl⟩
 |_=>none
section
variable (I:Monad Sem) (sf:Wz->WA Addr->Sem Unit) (bn:Env->Str->Wz->Sem Unit) (ub:Env->Str->Pos->Sem Unit) (hold:∀{α:Type},ui->Sem α->Sem α) (ev:Expr->Env->Sem Wz) (ef:Wz->String->Sem Wz) (st:Wz->Nat->Wz->Sem Unit) (gt:Wz->Nat->Sem Wz) (ty:Wz->Sem Bool) (rf:Wz->Wz->Sem Wz) (ri:Wz->Sem Wz) (rv:Code->Sem Wz) (uf:Addr->Nat->Wz->Sem Unit) (un:String) (onr:∀{α:Type},Sem α->(Wz->Sem Unit)->Sem α)
noncomputable def GY(e c:Sem Wz):Sem Wz:=letI:=I;do
 let b <-e
 let d <-hold [b] c
 let a <-hold [d] (ef b "exceptions must derive from BaseException")
 let c <-(match d with
  | .none=>pure .none
  |_=>hold [a] (ef d "exception causes must derive from BaseException"))
 st a 3 c
 st a 4 (.bool true)
 let a <-(do if <-ty b then hold [a] (rf b a)else ri a)
 sf a none
 pure a
noncomputable def Cf(a:wL):Sem Unit:=letI:=I;do
 standAt a.hp
 sf a.v none
 bn a.env a.n a.v
noncomputable def Cg(a:wL):Sem Wz:=letI:=I;do
 standAt a.rp
 GY I sf hold ef st ty rf ri (do let b <-ev a.x a.env;standAt a.rp;pure b) (do let b <-ev a.c a.env;standAt a.rp;pure b)
noncomputable def GZ(a b:Wz):Sem Unit:=letI:=I;match a with
 | .ref c=>do
  let _ <-hold [a] (rv (.builtin un ⟨[a,b,b,.bool false],[]⟩))
  uf c 2 b
 |_=>pure ()
noncomputable def Ci(a:wL)(b:Wz):Sem Unit:=letI:=I;do
 hold [b] (onr (do
  bn a.env a.n .none
  ub a.env a.n a.hp) λω=>sf b none)
 match <-gt b 1 with
  | .none=>unsupported "try.except-as:exception-without-traceback"
  |_=>sf b a.env.frame
end
noncomputable def Sz(a c:Sem Wz):Sem Wz:=GY Sem.instMonad setFlight holding excFromValue setField isType raisedFor raisedInstance a c
noncomputable def MR(a:wL):Sem Unit:=Cf Sem.instMonad setFlight bindName a
noncomputable def MS(a:wL):Sem Wz:=Cg Sem.instMonad setFlight holding eval excFromValue setField isType raisedFor raisedInstance a
noncomputable def MT(a b:Wz):Sem Unit:=GZ Sem.instMonad holding runValue updateField "proto.unchain" a b
noncomputable def MU(b:wL)(a:Wz):Sem Unit:=Ci Sem.instMonad setFlight bindName unbindBehindTheSuite holding field Sem.onRaise b a
structure gj where
 den:Code->Sem PySem.Fin
 bind:FuncData->Args->Sem (Wy (Str×Wz))
 env:Scope->Addr->Wy (Str×Addr)->Wy (Str×Wz)->Str->WA Addr->Wz->Addr->Sem Env
 ex:Wy Stmt->Env->Sem Flow
 ev:Expr->Env->Sem Wz
 VX:Wz->WA Addr->Sem Unit
 (hand Wg:Wz->Env->Wy ExceptHandler->Sem Flow)
 Wa:Expr->Wy Stmt->Wy Stmt->Env->Sem PySem.Fin
 Wt:Expr->Wz->Wy Stmt->Wy Stmt->Env->Sem PySem.Fin
 Wh:Expr->Nat->Wz->Wz->Env->Sem PySem.Fin
 name:Env->Str->Sem Wz
 VH:Wz->Sem Bool
 Vl:Wz->ui->Sem Wz
 Vx:Expr->Str->Pos->Pos->Env->Wz->Sem Wz
 kind:Env->Str->WA NameKind
 inter:Env->Bool
 ry:wL->Sem Unit
 rz:wL->Sem Wz
 ru:Wz->Wz->Sem Unit
 rq:wL->Wz->Sem Unit
noncomputable def gj.own:gj:=⟨denote table,bindArgs,λn h f c m a e d=>newFunctionEnv n h f c m a e none d,execs,eval,setFlight,handleBy,handleWith,whileTurn,forTurn,compTurn,loadName,isType,λa i=>call a i,λk j b l g o=>methodCall k j b l g o 0 [] [],Env.kindOf,interactive,MR,MS,MT,MU⟩
structure Cx where
 hd:WA Wz
 top:WA Nat
noncomputable abbrev aJ(a b:Type):=(b->St->WA a)->St->WA a
structure IH(R:Type) where
 t:∀{α:Type},Nat->Cx->Sem α->aJ R (Except Wz α)
 c:Nat->Cx->Code->aJ R WH
 b:Nat->Cx->Wy Stmt->Env->aJ R (Except Wz Flow)
 s:Nat->Code->Pos->Sem PySem.Fin->Wy WM->Nat->aJ R End
noncomputable def cellAt(b:Wy aF)(a:Nat):WA aF:=b[a]?
noncomputable def s7(a:Nat):uh->Bool
 |[]=>false
 |q::b=>match Nat.beq a q with
  |true=>true
  |false=>s7 a b
noncomputable def kA(a:gi):gi:=ea a #[]
noncomputable def collect:uh->Wy aF->Wy aF->WA (Wy g8)
 |[],[],_=>some []
 |f::e,b::g,d=>match cellAt d f with
  |some a=>match a.fr,b.fr,s7 f e with
   |_,_,true=>none
   |true,true,false=>match collect e g d with
    |some c=>some (.n a.addr b.addr:: .o (kA a.obj) (kA b.obj)::c)
    |none=>none
   |false,false,false=>match collect e g d with
    |some c=>some (.n a.addr b.addr:: .o a.obj b.obj::c)
    |none=>none
   |_,_,_=>none
  |none=>none
 |_,_,_=>none
noncomputable def dR:uh->Wy (Nat×WI)->Wy (Nat×WI)->WA (Wy g8)
 |[],[],_=>some []
 |c::d,e::g,b=>match b[c]? with
  |some a=>match s7 c d with
   |true=>none
   |false=>match dR d g b with
    |some f=>some (.n a.1 e.1:: .g a.2 e.2::f)
    |none=>none
  |none=>none
 |_,_,_=>none
noncomputable def kB:uh->Wy aF->WA (ui×Wy dh)
 |[],_=>some ([],[])
 |d::e,b=>match cellAt b d with
  |some a=>match a.fr,hQ a.obj,kB e b with
   |false,some f,some c=>some (.ref a.addr::c.1,f::c.2)
   |_,_,_=>none
  |none=>none
noncomputable def j5(b:Wy aF)(a:Wy jz):f8->WA jz
 | .cells i=>match kB i b with
  |some c=>some ⟨⟨c.1⟩,c.2⟩
  |none=>none
 | .UO h=>a[h]?
 | .app f g=>match j5 b a f,j5 b a g with
  |some d,some e=>some ⟨d.xs++e.xs,d.rows++e.rows⟩
  |_,_=>none
noncomputable def fH(b:Wy aF)(a:Wy jz):Wy f8->Wy jz->WA (Wy g8)
 |[],[]=>some []
 |s::e,B::c=>match j5 b a s,fH b a e c with
  |some f,some d=>some (.bu f B::d)
  |_,_=>none
 |_,_=>none
noncomputable def pv:uh->Wy aF->uk
 |[],_=>[]
 |d::b,a=>match cellAt a d with
  |some c=>c.obj::pv b a
  |none=>pv b a
noncomputable def lW:Code->ui
 | .builtin _ a=>a.pos
 | .call _ a=>a.pos
 |_=>[]
noncomputable def T3(c:Code):gi:=⟨.none,none,.fields (lW c).toArray,#[]⟩
noncomputable def pw:Wy g8->uk
 |[]=>[]
 | .c b _::a=>T3 b::pw a
 |_::a=>pw a
noncomputable def mx:Wy g8->Wy AL
 |[]=>[]
 | .st b::a=>b::mx a
 |_::a=>mx a
noncomputable def yq.at(b:yq)(c:Code)(d:Wy aF)(a:Wy g8):Spec:=b.spec c (pv b.pos d++pw a) (mx a)
noncomputable def mQ.at(b:mQ)(c:Code)(d:Wy aF)(a:Wy g8):Seg:=b.seg c (pv b.pos d++pw a) (mx a)
noncomputable def da:Wy aF->Nat->gi->Wy aF
 |[],_,_=>[]
 |c::a,0,b=>⟨c.addr,b,c.fr⟩::a
 |c::a,d+1,b=>c::da a d b
noncomputable def ec:uh->uk->Wy aF->Wy aF
 |c::d,b::os,a=>ec d os (da a c b)
 |_,_,a=>a
noncomputable def il:Wy (Nat×WI)->Nat->WI->Wy (Nat×WI)
 |[],_,_=>[]
 |c::a,0,b=>(c.1,b)::a
 |c::a,d+1,b=>c::il a d b
noncomputable def dU:uh->Wy WI->Wy (Nat×WI)->Wy (Nat×WI)
 |c::d,b::os,a=>dU d os (il a c b)
 |_,_,a=>a
noncomputable def g9:ScopeKind->Bool
 | .module=>false
 |_=>true
noncomputable def okMark(a:WA Wz):Bool:=match a with
 |none=>true
 |some (.ref _)=>true
 |some _=>false
theorem ql{b:Prop}{c:Decidable b}{a:Nat}{d:b->Nat}{e:¬b->Nat}(g:∀f,d f<=a)(h:∀f,e f<=a): @dite _ b c d e<=a:=by
 cases c with
 |isTrue f=>exact g f
 |isFalse f=>exact h f
variable {c:Args}
theorem W9{a:String}(d:a≠ "proto.\x69mport.load")(e:a≠ "proto.\x69mport.exec"):(Code.builtin a c).frames<=1:=by
 delta Code.frames Code.frames.match_1 Code.frames._sparseCasesOn_1
 dsimp only;refine ql (λb=>absurd b d) λω=>ql (λb=>absurd b e) λω=> ?_
 iterate 7 refine ql (λb=>by subst b;exact Nat.le_refl 1) λω=> ?_
 exact Nat.zero_le 1
theorem XN:(if D=true then 1 else 0)<=1:=by cases D<;>decide
theorem XO{a:String}(b:a= "type.__call__"):(Code.builtin a c).frames=0:=by subst b;rfl
theorem XQ{a:String}(b:a≠ "type.__call__"):(Code.builtin a c).isCreation=false:=by
 delta Code.isCreation Code.isCreation.match_1 Code.isGuard._sparseCasesOn_1
 dsimp only;exact dif_neg b
theorem XR{a:String}(b:a≠ "claim.caller"):(Code.builtin a c).isCaller=false:=by
 delta Code.isCaller Code.isCaller.match_1 Code.isGuard._sparseCasesOn_1
 dsimp only;exact dif_neg b
theorem XT{a:String}(f:a≠ "claim.caller")(g:a≠ "proto.\x69mport.load")(h:a≠ "proto.\x69mport.exec"):(Code.builtin a c).weight<=2:=by
 unfold Code.weight;rw[XR f];refine Nat.add_le_add (b:=2) (d:=0) ?_ (Nat.le_refl 0)
 by_cases e:a= "type.__call__"
 ·rw[XO e,Nat.zero_add];exact Nat.add_le_add XN XN
 ·rw[XQ e];exact Nat.add_le_add (b:=1) (d:=1) (Nat.add_le_add (b:=1) (d:=0) (W9 g h) (Nat.le_refl 0)) XN
theorem XU{a:String}(b:a≠ "proto.\x69mport.load")(d:a≠ "proto.\x69mport.exec"):(Code.builtin a c).cUnits<=12:=Nat.le_trans (Nat.add_le_add_left (Nat.mul_le_mul_left 3 (W9 b d)) 1) (by decide)
structure b9(c:Code):Prop where
 fr:c.isFrame=false
 wt:c.weight<=2
 un:c.cUnits<=12
noncomputable def Gq(a:String)(d:Args):WA {f:Unit//b9 (.builtin a d)}:=match PySem.W.S.strDecS a "claim.caller" with
 | .isTrue _=>none
 | .isFalse e=>match PySem.W.S.strDecS a "proto.\x69mport.load" with
  | .isTrue _=>none
  | .isFalse b=>match PySem.W.S.strDecS a "proto.\x69mport.exec" with
   | .isTrue _=>none
   | .isFalse c=>some ⟨(),rfl,XT e b c,XU b c⟩
noncomputable def gp:(b:Code)->WA {c:Unit//b9 b}
 | .builtin id a=>Gq id a
 | .call .. | .block .. | .handlers .. | .whileLoop .. | .forLoop .. | .compStart (.ListComp ..) .. | .compLoop (.ListComp ..) .. =>some ⟨(),rfl,Nat.le_of_ble_eq_true rfl,Nat.le_of_ble_eq_true rfl⟩
 |_=>none
noncomputable def restOf(a:WD (WA Wz)):ui:=a.toList.map λb=>b.getD .none
noncomputable def yr(b:Wz)(a:Addr)(c:ui):gi:=⟨.type "traceback",none,.fields (b:: .ref a:: .none::rawInt a:: .none::c).toArray,#[]⟩
noncomputable def hR(a:Nat)(c:Wz)(b:gi):gi:=Obj.mapFields (·.setIfInBounds a c) b
noncomputable def XJ(b:Nat):uh->WA (uh)
 |a::os=>match Nat.beq a b with
  |true=>some os
  |false=>none
 |[]=>none
noncomputable def bL:Bool->Bool
 |true=>false
 |false=>true
noncomputable def yt(a b:WA Nat):WA (Wy g8):=match a,b with
 |none,_=>some []
 |some c,some d=>some [.n d c]
 |some _,none=>none
noncomputable def jA:Code->Bool
 | .block .. =>true
 |_=>false
inductive Bd where
 |st (b:Wy Stmt)
 |ex (e:Expr)
 |gen (b:Wy Stmt)
noncomputable def wT(b:Bool)(a:FuncBody):Bd->Prop
 | .st c=>b=false/\a= .stmts c
 | .ex d=>b=false/\a= .expr d
 | .gen c=>b=true/\a= .stmts c
noncomputable def Yy:(c:Bool)->(a:FuncBody)->WA {d:Bd//wT c a d}
 |true,.stmts a=>some ⟨.gen a,rfl,rfl⟩
 |false,.stmts a=>some ⟨.st a,rfl,rfl⟩
 |false,.expr b=>some ⟨.ex b,rfl,rfl⟩
 |true,.expr _=>none
noncomputable def Yz(a:FuncData):(c:Bool)->WA {b:Bd//c=false/\wT a.scope.isGenerator a.body b}
 |true=>none
 |false=>match Yy a.scope.isGenerator a.body with
  |some b=>some ⟨b.1,rfl,b.2⟩
  |none=>none
noncomputable def u8(a:FuncData):WA {b:Bd//a.scope.isCoroutine=false/\wT a.scope.isGenerator a.body b}:=Yz a a.scope.isCoroutine
structure wM where
 (p0 p1:Pos)
 name:Str
 (apos pos p2:Pos)
noncomputable def wM.o(a:wM):Expr:= .Call (.Name (Str.ofString "super") a.p0) [] [] a.p1
noncomputable def wM.stm(a:wM):Stmt:= .Expr (.Call (.Attribute a.o a.name a.apos) [] [] a.pos) a.p2
noncomputable def Cj:(h:Stmt)->WA {i:wM//h=i.stm}
 | .Expr (.Call (.Attribute (.Call (.Name id d) [] [] e) c a) [] [] g) f=>match PySem.W.Fast.sDec id (Str.ofString "super")with
  | .isTrue b=>some ⟨⟨d,e,c,a,g,f⟩,by rw[b];rfl⟩
  | .isFalse _=>none
 |_=>none
noncomputable def w1(a b:Str):Bool:=match PySem.W.Fast.sDec a b with
 | .isTrue _=>true
 | .isFalse _=>false
noncomputable def px{a:Type}(b:Str):Wy (Str×a)->Bool
 |[]=>true
 |x::c=>match w1 b x.1 with
  |true=>false
  |false=>px b c
noncomputable def Xa:(c:Wy Arg)->WA {a:Str// ∃b:Arg,c.head?=some b/\b.arg=a}
 |a::_=>some ⟨a.arg,a,rfl,rfl⟩
 |[]=>none
noncomputable def kD(a:Wz):gi:={cls:= .type "tuple",data:= .seq [a].toArray}
noncomputable def pz(a:Wz)(b:Nat):gi:={cls:=a,data:= .fields #[.ref b,.none,.none,.none,.bool false,.none]}
noncomputable def Ck:(c:Code)->WA {a:Wz//c= .builtin "Exception.__new__" ⟨[.ref 44,a],[]⟩}
 | .builtin id ⟨[.ref b,a],[]⟩=>match PySem.W.S.strDecS id "Exception.__new__" with
  | .isTrue d=>match Nat.decEq b 44 with
   | .isTrue e=>some ⟨a,by rw[d,e]⟩
   | .isFalse _=>none
  | .isFalse _=>none
 |_=>none
noncomputable def G0:(b:Data)->WA {a:ug//b= .fields a}
 | .fields a=>some ⟨a,rfl⟩
 |_=>none
noncomputable def Xb:(b:Data)->WA {a:FuncData//b= .func a}
 | .func a=>some ⟨a,rfl⟩
 |_=>none
noncomputable def c8:(b:Wz)->WA {a:Nat//b= .ref a}
 | .ref a=>some ⟨a,rfl⟩
 |_=>none
noncomputable def YA:WA Nat->Wz
 |none=>.none
 |some a=>.ref a
noncomputable def YB:(b:Wz)->WA {c:WA Nat//b=YA c}
 | .none=>some ⟨none,rfl⟩
 | .ref a=>some ⟨some a,rfl⟩
 |_=>none
noncomputable def Xc:(c:Wz)->WA {a:Str// ∃b,c= .str a b}
 | .str a b=>some ⟨a,b,rfl⟩
 |_=>none
noncomputable def XX:(c:Wz)->WA {d:Unit//c= .type "super"}
 | .type b=>match PySem.W.S.strDecS b "super" with
  | .isTrue a=>some ⟨(),by rw[a]⟩
  | .isFalse _=>none
 |_=>none
noncomputable def Xd:(d:Code)->WA {a:Nat×Args//d= .call (.ref a.1) a.2}
 | .call (.ref b) c=>some ⟨(b,c),rfl⟩
 |_=>none
structure XY where
 body:Wy Stmt
 h:ExceptHandler
 hs:Wy ExceptHandler
 orelse:Wy Stmt
 pos:Pos
 rest:Wy Stmt
noncomputable def XZ:(h:Wy Stmt)->WA {a:XY//h= .Try a.body (a.h::a.hs) a.orelse [] a.pos::a.rest}
 | .Try b (c::d) e [] f::g=>some ⟨⟨b,c,d,e,f,g⟩,rfl⟩
 |_=>none
noncomputable def Yk:WA NameKind->Bool
 |some .globalImplicit=>true
 |_=>false
noncomputable def Yl:WA NameKind->Bool
 |some .free=>true
 |_=>false
inductive Co where
 |wh (t:Expr) (b o:Wy Stmt) (env:Env)
 |fo (t:Expr) (i:Wz) (b o:Wy Stmt) (env:Env)
 |co (a:Expr) (g:Wy Comprehension) (c:Scope) (d:Pos) (n:Nat) (i acc:Wz) (env:Env)
 |bl (b:Wy Stmt) (env:Env)
 |ha (e:Wz) (hs:Wy ExceptHandler) (env:Env)
noncomputable def Co.YQ:Co->Code
 | .wh e b d a=>.whileLoop e b d a
 | .fo e c b d a=>.forLoop e c b d a
 | .co f k h i m c g a=>.compLoop (.ListComp f k h i) m c g a
 | .bl b a=>.block b a
 | .ha j l a=>.handlers j l a
noncomputable def X0:(d:Code)->WA {c:Co//d=c.YQ}
 | .whileLoop f b e a=>some ⟨.wh f b e a,rfl⟩
 | .forLoop f c b e a=>some ⟨.fo f c b e a,rfl⟩
 | .compLoop (.ListComp g k d i) m c h a=>some ⟨.co g k d i m c h a,rfl⟩
 | .block b a=>some ⟨.bl b a,rfl⟩
 | .handlers j l a=>some ⟨.ha j l a,rfl⟩
 |_=>none
section
variable {R β γ:Type}
noncomputable def ob(c:WA β)(b:β->WA γ):WA γ:=match c with
 |some a=>b a
 |none=>none
noncomputable def gt(a:Bool)(b:WA γ):WA γ:=match a with
 |true=>b
 |false=>none
noncomputable def lb{a:Type}(d:Wy a)(b:a->Wy a->WA γ):WA γ:=match d with
 |c::os=>b c os
 |[]=>none
noncomputable def cX:aJ R β:=λω ω=>none
noncomputable def cR(a:β):aJ R β:=λc b=>c a b
noncomputable def cB(b:aJ R β)(c:β->aJ R γ):aJ R γ:=λf d=>b (λa e=>c a f e) d
noncomputable def bg(c:WA β):aJ R β:=λd b=>ob c λa=>d a b
noncomputable def cG(a:Bool)(b:aJ R β):aJ R β:=λd c=>gt a (b d c)
noncomputable def cJ:aJ R Nat:=λd a=>lb a.UT λb c=>d b {a with UT:=c}
noncomputable def cE(b:g8)(c:aJ R β):aJ R β:=λd a=>c d ⟨a.led,a.gl,a.al,a.sl,a.UT,a.use,a.UN,a.bl,b::a.lg⟩
noncomputable def cI(c:Nat)(e f:aJ R β):aJ R β:=λb a=>match XJ c a.UT with
 |some d=>e b {a with UT:=d}
 |none=>f b a
noncomputable def cA:aJ R Nat:=λb a=>b (a.al 0) ⟨a.led,a.gl,cy a.al,a.sl,a.UT,a.use,a.UN,a.bl,a.lg⟩
noncomputable def cN(c:gi)(b:Bool):aJ R Nat:=λd a=>d (a.al 0) ⟨⟨a.al 0,c,b⟩::a.led,a.gl,cy a.al,a.sl,a.UT,a.use,a.UN,a.bl,a.lg⟩
noncomputable def cF(c:Code):aJ R Nat:=λb a=>b (a.al 0) ⟨a.led,(a.al 0,.fresh c)::a.gl,cy a.al,a.sl,a.UT,a.use,a.UN,a.bl,a.lg⟩
noncomputable def Ym(b:Except Wz β):aJ R β:=match b with
 | .ok a=>cR a
 | .error _=>cX
noncomputable def cK(a:aJ R (Except Wz β)):aJ R β:=cB a Ym
end
noncomputable def c9(a b:gi):Bool:=match b.isFreed with
 |true=>false
 |false=>match oC a with
  |true=>false
  |false=>match ew a with
   |true=>ew b
   |false=>true
section
variable {R β:Type} (K:Nat->WA gi) (X:gj) (G:Setting)
noncomputable def cM:aJ R Nat:=λb a=>b (a.al 0) ⟨a.led,a.gl,cy a.al,a.sl,a.UT,a.use,a.UN,a.bl,a.lg⟩
noncomputable def cS:aJ R (WD (WA Wz)):=λb a=>b (a.sl 0) ⟨a.led,a.gl,a.al,cy a.sl,a.UT,a.use,a.UN,a.bl,a.lg⟩
noncomputable def Yn(b:Nat):aJ R (WA aF):=λc a=>c (cellAt a.led b) a
noncomputable def Yo(b:Nat):aJ R jz:=λc a=>ob a.bl[b]? λB=>c B a
noncomputable def Yp(b:dh):aJ R gi:=λc a=>c (yp b (a.al 0) (a.al 1) (a.al 2) (a.sl 0)) ⟨a.led,a.gl,cy (cy (cy a.al)),cy a.sl,a.UT,a.use,a.UN,a.bl,a.lg⟩
noncomputable def cC(d c:Nat):aJ R gi:=λe a=>ob (cellAt a.led d) λb=>gt (bL b.fr) (e b.obj ⟨a.led,a.gl,a.al,a.sl,a.UT,a.use,a.UN,a.bl,.n b.addr c::a.lg⟩)
noncomputable def X1:(B:jz)->WA {a:Nat×dh//B.xs.toList=[.ref a.1]/\B.rows=[a.2]}
 |⟨⟨[.ref b]⟩,[c]⟩=>some ⟨(b,c),rfl,rfl⟩
 |_=>none
noncomputable def Xe(b:Nat):aJ R gi:=cB cJ λc=>cB (Yo c) λB=>cB (bg (X1 B)) λa=>cB (Yp a.1.2) λd=>cE (.n a.1.1 b) (cR d)
noncomputable def X2(b:Nat)(d:WA aF):aJ R gi:=match d with
 |none=>Xe b
 |some a=>match a.fr with
  |true=>cB cS λc=>cE (.n a.addr b) (cR (ea a.obj c))
  |false=>cE (.n a.addr b) (cR a.obj)
noncomputable def cL(b:Nat):aJ R gi:=cB cJ λa=>match a with
 |0=>bg (K b)
 | .succ a=>cB (Yn a) (X2 b)
noncomputable def Hb(b:Nat):aJ R gi:=cB cJ λa=>match a with
 |0=>bg (K b)
 | .succ a=>cC a b
noncomputable def cU(e:Nat)(d:gi->gi):aJ R Unit:=λg a=>lb a.UT λc f=>match c with
 |0=>none
 |c+1=>ob (cellAt a.led c) λb=>match b.fr with
  |true=>gt (c9 b.obj (d (ea b.obj (a.sl 0)))) (g () ⟨da a.led c (d (ea b.obj (a.sl 0))),a.gl,a.al,cy a.sl,f,a.use,a.UN,a.bl,.n b.addr e::a.lg⟩)
  |false=>gt (c9 b.obj (d b.obj)) (g () ⟨da a.led c (d b.obj),a.gl,a.al,a.sl,f,a.use,a.UN,a.bl,.n b.addr e::a.lg⟩)
noncomputable def gy(E:mw)(c b:uh)(i:Wy f8)(k:Wy yq)(j:Wy mQ)(g:Wy g8)(h:AL->SL->β):aJ R β:=λl a=>ob (collect c E.pre a.led) λd=>ob (dR b E.UR a.gl) λf=>ob (fH a.led a.bl i E.UX) λe=>
 l (h (dI a.al) (dI a.sl)) ⟨E.new (dI a.al) (dI a.sl)++ec c (E.post (dI a.al) (dI a.sl)) a.led,E.UW (dI a.al) (dI a.sl)++dU b (E.UQ (dI a.al) (dI a.sl)) a.gl,odd a.al,odd a.sl,a.UT,k,j,E.US (dI a.al) (dI a.sl)++a.bl,g++(d++(f++(e++(.st (dI a.al)::a.lg))))⟩
noncomputable def Xf(S:Spec)(a:yq)(g:Wy yq)(e:Nat)(d:Cx)(c:Code):aJ R WH:=λh b=>gt (Nat.ble S.dep e) (ob (yt S.top d.top) λf=>gy S.UM a.pos a.Ve a.src g b.UN (.c c S.code::f) S.res h b)
noncomputable def Xg(e:Nat)(d:Cx)(c:Code):aJ R WH:=λg a=>lb a.use λb f=>Xf (b.at c a.led a.lg) b f e d c g a
noncomputable def f9(b:Nat)(a:Cx)(c:Code):aJ R WH:=match a.hd with
 |some _=>cX
 |none=>Xg b a c
noncomputable def qK(b:Nat)(a:Cx)(c:Code):aJ R WH:=match jA c with
 |true=>cX
 |false=>f9 b a c
noncomputable def qL(d:Nat)(a:Cx)(c:Wy Stmt)(b:Env):aJ R WH:=match d with
 |0=>cX
 |d+1=>f9 d a (.block c b)
noncomputable def Xh(S:Seg)(a:mQ)(h:Wy mQ)(e:Nat)(c:Code)(g:Wy WM)(d:Nat):aJ R End:=λi b=>gt (Nat.ble S.dep e) (gt S.start.isNone (gy S.UM a.pos a.Ve a.src b.use h [.c c S.code,.f g S.fs,.n d S.fr] S.res i b))
noncomputable def iP(e:Nat)(c:Code)(f:Wy WM)(d:Nat):aJ R End:=λh a=>lb a.UN λb g=>Xh (b.at c a.led a.lg) b g e c f d h a
variable {a:Type}
noncomputable def Hg(e:IH R)(d:Nat)(c:Cx)(g:gi)(f:Addr->Sem a)(h:Nat):aJ R (Except Wz a):=match h with
 |0=>cB (cN g false) λb=>e.t d c (f b)
 |1=>cB (cN g true) λb=>e.t d c (f b)
 |_=>cX
noncomputable def Xi(e:IH R)(d:Nat)(b:Cx)(c:Code)(g:WA Wz)(h:WH->Sem a)(i:Nat):aJ R (Except Wz a):=match i with
 |0=>cB (e.c d ⟨g.or b.hd,b.top⟩ c) λf=>e.t (d+1) b (h f)
 |1=>match g with
  |some _=>cX
  |none=>cB (qK d b c) λf=>e.t (d+1) b (h f)
 |_=>cX
noncomputable def stepT(e:IH R)(d:Nat)(c:Cx)(o:Sem a):aJ R (Except Wz a):=match o with
 | .pure f=>cR (.ok f)
 | .raise k=>cR (.error k)
 | .rule _ b=>e.t d c (b ())
 | .at _ b=>e.t d c (b ())
 | .point _ b=>e.t d c (b ())
 | .ask b=>e.t d c (b G)
 | .fresh b=>cB cA λn=>e.t d c (b n)
 | .handled false b=>e.t d c (b c.hd)
 | .load f _ b=>cB (cL K f) λg=>e.t d c (b g)
 | .loadIfAlive f b=>cB (Hb K f) λg=>e.t d c (b (some g))
 | .update f _ l b=>cB (cU f l) λω=>e.t d c (b ())
 | .alloc g b=>cG (bL g.isFreed) (cB cJ λi=>Hg e d c g b i)
 | .newGen h b=>cB (cF h) λm=>e.t d c (b m)
 | .call h j _ _ b=>match d with
  |0=>cX
  |d+1=>cG (okMark j) (cB cJ λi=>Xi e d c h j b i)
 |_=>cX
noncomputable def Xj(b:gi)(a:Nat):aJ R Wz:=cB (bg (G0 b.data)) λc=>bg c.1[a]?
noncomputable def cW(d e c:Nat)(g:Wz):aJ R Unit:=λh a=>ob (cellAt a.led d) λb=>gt (bL b.fr) (ob (G0 b.obj.data) λf=>ob f.1[c]? λω=>h () ⟨da a.led d (hR c g b.obj),a.gl,a.al,a.sl,a.UT,a.use,a.UN,a.bl,.n b.addr e::a.lg⟩)
noncomputable def Yq(c:Wz)(b:Nat):aJ R Nat:=λd a=>d (a.al 0) ⟨⟨a.al 0,yr c b (restOf (a.sl 0)),false⟩::a.led,a.gl,cy a.al,cy a.sl,a.UT,a.use,a.UN,a.bl,a.lg⟩
noncomputable def qu(a c e:Nat)(d:Wz):aJ R Unit:=cB (Yq d a) λb=>cW (.succ e) c 1 (.ref b)
noncomputable def Xk:(a:Wz)->WA {b:Unit//a= .none}
 | .none=>some ⟨(),rfl⟩
 |_=>none
noncomputable def Cp(a d e b f:Nat)(c:Wz):aJ R Unit:=match Xk c with
 |some _=>cB (cW f b 3 .none) λω=>qu a d e (.ref b)
 |none=>cE (.v c (rawInt a)) (cR ())
noncomputable def Xl(a c d:Nat)(f:WA Nat):aJ R Unit:=match f with
 |none=>qu a c d .none
 |some b=>cB cJ λe=>cB (cC e b) λg=>cB (Xj g 3) (Cp a c d b e)
noncomputable def fg(d:Nat)(f:Wz):aJ R Unit:=cB (bg (c8 f)) λb=>cB cJ λc=>cB (cC c b.1) λe=>cB (Xj e 1) λa=>cB (bg (YB a)) λa=>Xl d b.1 c a.1
noncomputable def hS(e:IH R)(d:Nat)(c:Cx)(b:Nat)(a:Wz):aJ R Unit:=cB (fg b a) λω=>cK (e.t d c (X.VX a none))
noncomputable def cT(c:Cx)(d:Env):aJ R Nat:=cB (bg c.top) λa=>cB (bg d.frame) λb=>cE (.n a b) (cR a)
noncomputable def Hl(f:IH R)(d:Nat)(c:Cx)(g:Wy Stmt)(e:Env)(a:Except Wz Flow):aJ R (Except Wz Flow):=match a with
 | .ok .next=>f.b d c g e
 |a=>cR a
noncomputable def Cq(c:IH R)(b:Nat)(a:Cx)(e:Nat)(f:Env)(g:Wy ExceptHandler)(d:Wz):aJ R (Except Wz Flow):=cB (hS X c b a e d) λω=>c.t b a (X.hand d f g)
noncomputable def Xm(e:IH R)(c:Nat)(a:Cx)(f:Nat)(d:Env)(i:Wy Stmt)(h:Wy ExceptHandler)(j:Except Wz Flow):aJ R (Except Wz Flow):=match j with
 | .ok .next=>e.b c a i d
 | .ok g=>cR (.ok g)
 | .error k=>Cq X e c a f d h k
noncomputable def fI(e:IH R)(d:Nat)(a:Cx)(g:Wy Stmt)(c:Env):aJ R (Except Wz Flow):=cB cJ λj=>match j with
 |0=>e.t d a (X.ex g c)
 |1=>match g with
  |s::k=>cB (e.t d a (X.ex [s] c)) (Hl e d a k c)
  |[]=>cX
 |2=>cB (bg (XZ g)) λf=>cB (cT a c) λi=>cB (cB (e.b d a f.1.body c) (Xm X e d a i c f.1.orelse (f.1.h::f.1.hs))) (Hl e d a f.1.rest c)
 |3=>qL d a g c
 |_=>cX
noncomputable def mS(e:Wz)(d:Str):aJ R Unit:=cB (bg (c8 e)) λa=>cB (Hb K a.1) λc=>cB (Xj c 1) λf=>cB (bg (Xc f)) λb=>cG (w1 b.1 d) (cR ())
noncomputable def X3(a:Env)(b:Str)(c:aJ R β):aJ R β:=cG (Yk (X.kind a (Str.ofString "super"))) (cG (Yl (X.kind a (Str.ofString "__class__"))) (cG (bL (X.inter a)) (cG (bL (w1 b (Str.ofString "__class__"))) c)))
noncomputable def wN(d:IH R)(c:Nat)(b:Cx)(e:wM)(a:Env):aJ R Unit:=cB (bg a.func) λl=>cB (bg (c8 a.code)) λj=>X3 X a e.name (cB (Hb K l) λn=>cB (bg (Xb n.data)) λg=>cB (bg (Xa (g.1.params.posonlyargs++g.1.params.args))) λh=>cB (Hb K j.1) λk=>cB (Xj k 2) λr=>cB (bg (Xc r)) λm=>cG (w1 G.program.main.file m.1) (cG (px (Str.ofString "super") G.program.main.scope.names) (
   cB (cK (d.t c b (X.name a (Str.ofString "super")))) λp=>cB (bg (XX p)) λω=>
   cB (cK (d.t c b (X.name a (Str.ofString "__class__")))) λf=>
   cB (cK (d.t c b (X.name a h.1))) λself=>
   cB (cK (d.t c b (X.VH f))) λi=>cG i (
   cB (cK (d.t c b (X.Vl (.type "super") [f,self]))) λq=>
   cB (cK (d.t c b (X.Vx e.o e.name e.apos e.pos a q))) λω=>cR ()))))
noncomputable def X4(e:IH R)(c:Nat)(a:Cx)(i:Wy Stmt)(d:Env):aJ R (Except Wz Flow):=match i with
 |h::s1::g=>cB (bg (Cj s1)) λj=>cB (cK (e.t c a (X.ex [h] d))) λf=>match f with
  | .next=>cB (wN K X G e c a j.1 d) λω=>e.b c a g d
  |_=>cX
 |_=>cX
noncomputable def kC(e:IH R)(c:Nat)(a:Cx)(f:Wy Stmt)(d:Env):aJ R (Except Wz Flow):=cI 9 (X4 K X G e c a f d) (e.b c a f d)
noncomputable def iQ(e h:Nat):aJ R Unit:=λi a=>lb a.UT λc b=>lb b λd b=>gt (bL (Nat.beq c d)) (ob (cellAt a.led c) λf=>ob (cellAt a.led d) λg=>i () ⟨a.led,a.gl,a.al,a.sl,b,a.use,a.UN,a.bl,.n f.addr e:: .n g.addr h::a.lg⟩)
noncomputable def cD(d:Env)(g:Nat->aJ R β):aJ R β:=λh a=>ob d.frame λc=>lb a.UT λe f=>gt (g9 d.scope.kind) (ob (cellAt a.led e) λb=>gt (ew b.obj) (gt b.fr (g c h ⟨a.led,a.gl,a.al,a.sl,f,a.use,a.UN,a.bl,.n b.addr c::a.lg⟩)))
noncomputable def Hq(e:IH R)(d:Nat)(c:Cx)(a:PySem.Fin):aJ R WH:=match a with
 | .done a=>cR (.ok a)
 | .again b=>cG b.quiet (e.c d c b)
noncomputable def X5:Flow->Flow
 | .ret a=>.ret a
 |_=>.ret .none
noncomputable def qM(g:IH R)(d:Nat)(c:Cx)(b:Nat)(f:β->Flow)(h:Except Wz β):aJ R WH:=match h with
 | .ok e=>cR (.ok (f e))
 | .error a=>cB (hS X g d c b a) λω=>cR (.error a)
noncomputable def Cs(e:IH R)(d:Nat)(c:Cx)(g:FuncData)(b:Env)(i:Bd):aJ R WH:=match i with
 | .gen f=>cB (cF (.func f b)) λk=>cB cA λl=>cB cA λm=>cB (cN ⟨.type "generator",none,.fields #[.int k 0,.str g.name l,.str g.qualname m],#[]⟩ false) λh=>cR (.ok (.ret (.ref h)))
 | .st f=>cD b λa=>cB (kC K X G e d ⟨c.hd,some a⟩ f b) (qM X e d ⟨c.hd,some a⟩ a X5)
 | .ex j=>cD b λa=>cB (e.t d ⟨c.hd,some a⟩ (X.ev j b)) (qM X e d ⟨c.hd,some a⟩ a .ret)
noncomputable def callC(e:IH R)(d:Nat)(b:Cx)(c:Code):aJ R WH:=cB (bg (Xd c)) λf=>cB (Hb K f.1.1) λj=>cB (bg (Xb j.data)) λa=>cB (bg (u8 a.1)) λg=>cB (mS K a.1.code a.1.qualname) λω=>cB (cK (e.t d b (X.bind a.1 f.1.2))) λh=>cB (cK (e.t d b (X.env a.1.scope a.1.globals a.1.closure h (a.1.qualname++ ".<locals>.") (some f.1.1) a.1.code a.1.builtins))) λi=>Cs K X G e d b a.1 i g.1
noncomputable def qN(d:IH R)(b:Nat)(a:Cx)(c:Code):aJ R WH:=cB (bg (gp c)) λω=>cB (d.t b a (X.den c)) λg=>match g with
 | .ok f=>Hq d b a f
 | .error e=>cR (.error e)
noncomputable def Co.env:Co->Env
 | .wh _ _ _ a=>a
 | .fo _ _ _ _ a=>a
 | .co _ _ _ _ _ _ _ a=>a
 | .bl _ a=>a
 | .ha _ _ a=>a
noncomputable def Co.tree(X:gj):Co->Sem PySem.Fin ⊕Sem Flow
 | .wh e b d a=>.inl (X.Wa e b d a)
 | .fo e c b d a=>.inl (X.Wt e c b d a)
 | .co f k h i m c g a=>.inl (X.Wh (.ListComp f k h i) m c g a)
 | .bl b a=>.inr (X.ex b a)
 | .ha j l a=>.inr (X.Wg j a l)
noncomputable def X6(h:IH R)(e:Nat)(d:Cx)(c:Nat)(g:a->aJ R WH)(i:Sem a):aJ R WH:=cB (h.t e d i) λj=>match j with
 | .ok f=>g f
 | .error b=>cB (fg c b) λω=>cR (.error b)
noncomputable def Yr(d:IH R)(b:Nat)(a:Cx)(c:Code):aJ R WH:=cB (bg (gp c)) λω=>cB (bg (X0 c)) λg=>cB (cT a g.1.env) λf=>match g.1.tree X with
 | .inl e=>X6 d b a f (Hq d b a) e
 | .inr e=>X6 d b a f (λh=>cR (.ok h)) e
noncomputable def Xn(e:IH R)(d:Nat)(a:Cx)(c:Code):aJ R WH:=cB (bg (gp c)) λω=>cB (bg (Qm c)) λf=>cB (bg a.hd) λi=>cB (bg (c8 i)) λh=>cB (cT a f.1.env) λg=>cB (cK (e.t d a (X.ry f.1))) λω=>cB (cK (e.t d a (X.rz f.1))) λj=>cB (bg (c8 j)) λb=>cB (iQ b.1 h.1) λω=>cB (cK (e.t d a (X.ru (.ref b.1) (.ref h.1)))) λω=>cB (fg g (.ref b.1)) λω=>cB (cK (e.t d a (X.rq f.1 (.ref b.1)))) λω=>cB (fg g (.ref b.1)) λω=>cR (.error (.ref b.1))
noncomputable def Xo(c:Code):aJ R WH:=cB (bg (Ck c)) λd=>cB (cN (kD d.1) false) λb=>cB (cN (pz (.ref 44) b) false) λa=>cR (.ok (.ret (.ref a)))
noncomputable def Xp(d:IH R)(b:Nat)(a:Cx)(c:Code)(e:Nat):aJ R WH:=match e with
 |0=>callC K X G d b a c
 |1=>qN X d b a c
 |2=>qK b a c
 |3=>Yr X d b a c
 |4=>Xn X d b a c
 |5=>Xo c
 |_=>cX
noncomputable def ek(d:IH R)(b:Nat)(a:Cx)(c:Code):aJ R WH:=cB cJ (Xp K X G d b a c)
noncomputable def mU(a:Nat):Wy Env->WA (Wy g8)
 |[]=>some []
 |b::e=>match b.frame,g9 b.scope.kind with
  |some c,true=>match mU a e with
   |some d=>some (.n c a::d)
   |none=>none
  |_,_=>none
noncomputable def fJ:Wy WM->Bool
 |[]=>true
 | .ret _ none false _ _ _ _::a=>fJ a
 |_=>false
noncomputable def Ys(b:Wy g8)(c:aJ R β):aJ R β:=λd a=>c d ⟨a.led,a.gl,a.al,a.sl,a.UT,a.use,a.UN,a.bl,b++a.lg⟩
noncomputable def fL(c:Code)(a:Wy WM):Bool:=match fJ a with
 |true=>match c.isCaller with
  |false=>match Nat.ble (frameCount (a.map Frame.where_)+c.weight) 48 with
   |true=>Nat.ble (unitsOf (a.map Frame.where_)+c.cUnits) 80
   |false=>false
  |true=>false
 |false=>false
noncomputable def eL(g:IH R)(f:Nat)(c:Code)(h:Pos)(i:Sem PySem.Fin)(a:Wy WM)(d:Nat):aJ R End:=cG (fL c a) (cB (bg (mU d (c.envs++envsOf (a.map Frame.where_)))) λb=>match b with
 |e::b=>Ys (e::b) (g.s f c h i a d)
 |[]=>cX)
noncomputable def wO(f:IH R)(e:Nat)(b:WH)(a:Wy WM)(c:Nat):aJ R End:=match a with
 |[]=>cR (.ret b)
 | .ret g _ _ _ d h _::a=>eL f e d h (g b) a c
 |_=>cX
noncomputable def jR(d:IH R)(b:Nat)(c:Code)(j:Pos)(g:Wy WM)(e:Nat)(i:Sem a)(h:a->Sem PySem.Fin):aJ R End:=cB (cK (d.t b ⟨none,none⟩ i)) λf=>d.s b c j (h f) g e
noncomputable def X7(b:WA Wz)(a:Bool)(c:aJ R β):aJ R β:=match b with
 |some _=>cX
 |none=>match a with
  |true=>cX
  |false=>c
noncomputable def Xq(k:IH R)(e:Nat)(c:Code)(b:Pos)(f:Wy WM)(d:Nat)(a:Code)(h:WA Wz)(g:Bool)(j:ui)(i:WH->Sem PySem.Fin):aJ R End:=cI 2 (X7 h g (eL k e a b (X.den a) (.ret i none false j c b []::f) d)) (cI 3 (X7 h g (iP e a (.ret i none false j c b []::f) d)) (jR k e c b f d (.call a h g j .pure) i))
noncomputable def M3(e:IH R)(b:Nat)(g:Pos)(d:Wy WM)(a:Nat)(c:Code)(f:Nat):aJ R End:=match f with
 |0=>eL e b c g (X.den c) d a
 |1=>iP b c d a
 |_=>cX
noncomputable def ez(f:IH R)(e:Nat)(c:Code)(g:Pos)(r:Sem PySem.Fin)(b:Wy WM)(d:Nat):aJ R End:=match r with
 | .pure (.done j)=>wO f e (.ok j) b d
 | .raise m=>wO f e (.error m) b d
 | .pure (.again i)=>cG i.quiet (cB cJ (M3 X f e g b d i))
 | .yield t false k a=>match splitAtGen b with
  |none=>cG (bL (b.any Frame.guarded)) (cR (.susp t false k a c g b))
  |some _=>cX
 | .at q a=>f.s e c q (a ()) b d
 | .rule _ a=>f.s e c g (a ()) b d
 | .point _ a=>f.s e c g (a ()) b d
 | .ask a=>f.s e c g (a G) b d
 | .handled false a=>f.s e c g (a none) b d
 | .load h l a=>jR f e c g b d (.load h l .pure) a
 | .loadIfAlive h a=>jR f e c g b d (.loadIfAlive h .pure) a
 | .update h l j a=>jR f e c g b d (.update h l j .pure) a
 | .alloc p a=>jR f e c g b d (.alloc p .pure) a
 | .fresh a=>jR f e c g b d (.fresh .pure) a
 | .call i o n k a=>Xq X f e c g b d i o n k a
 |_=>cX
noncomputable def iter:Nat->IH R
 |0=>⟨λω ω ω=>cX,λω ω ω=>cX,λω ω ω ω=>cX,λω ω ω ω ω ω=>cX⟩
 |n+1=>⟨λa b d=>stepT K G (iter n) a b d,λa b c=>ek K X G (iter n) a b c,λa b i f=>fI X (iter n) a b i f,λa c h d g e=>ez X G (iter n) a c h d g e⟩
end
end
section
noncomputable abbrev TU:=Code->uk->Wy AL->Spec
noncomputable abbrev TG:=Code->uk->Wy AL->Seg
noncomputable abbrev ul(b:Nat)(a:ui):Code:= .call (.ref b) ⟨a,[]⟩
noncomputable abbrev um(b:String)(a:ui):Code:= .builtin b ⟨a,[]⟩
noncomputable abbrev uj(a:Wz):WH:= .ok (.ret a)
noncomputable def cw(a b:St):Prop:=∀c∈a.lg,c∈b.lg
noncomputable def i0(a:St):Prop:=∀b∈a.lg,b.ok
section
variable {R0 β γ:Type} {F:R0->St->Prop}
noncomputable def fK(c:St->WA (R0×St)):Prop:=∀a b,c a=some b->cw a b.2
noncomputable def dj(b:β->St->WA (R0×St)):Prop:=∀a,fK (b a)
noncomputable def Gr(b:aJ (R0×St) β):Prop:=∀a,dj a->fK (b a)
variable {b:γ}
theorem aM{c:WA β}{a:β->WA γ}(e:ob c a=some b):∃d,c=some d/\a d=some b:=by
 cases c with
 |none=>cases e
 |some d=>exact⟨d,rfl,e⟩
theorem aQ{c:WA γ}(a:gt D c=some b):D=true/\c=some b:=by
 cases D with
 |false=>cases a
 |true=>exact⟨rfl,a⟩
variable {c:Type}
theorem bj{d:Wy c}{a:c->Wy c->WA γ}(g:lb d a=some b):∃e f,d=e::f/\a e f=some b:=by
 cases d with
 |nil=>cases g
 |cons e f=>exact⟨e,f,rfl,g⟩
noncomputable def Good(F:R0->St->Prop)(c:WA (R0×St)):Prop:=∃b a,c=some (b,a)/\i0 a/\F b a
noncomputable def Al(F:R0->St->Prop)(d:St->WA (R0×St))(c:St):Prop:=∀a b,Good F (d (c.w a b))
theorem Good.none{a:Prop}(b:Good F .none):a:=by obtain⟨_,_,c,_⟩:=b;cases c
theorem Good.opt{x:WA β}{a:AL->SL->β->WA (R0×St)}(e:∀c d,Good F (ob x (a c d))):∃b,x=some b/\∀c d,Good F (a c d b):=by
 cases x with
 |none=>exact(e (λω=>0) (λω=> #[])).none
 |some b=>exact⟨b,rfl,e⟩
theorem Good.YR{b:Bool}{f:AL->SL->WA (R0×St)}(d:∀a c,Good F (gt b (f a c))):b=true/\∀a c,Good F (f a c):=by
 cases b with
 |false=>exact(d (λω=>0) (λω=> #[])).none
 |true=>exact⟨rfl,d⟩
theorem Good.lst{l:Wy c}{a:AL->SL->c->Wy c->WA (R0×St)}(g:∀e f,Good F (lb l (a e f))):∃b d,l=b::d/\∀e f,Good F (a e f b d):=by
 cases l with
 |nil=>exact(g (λω=>0) (λω=> #[])).none
 |cons b d=>exact⟨b,d,rfl,g⟩
theorem Al.YN{a:St->WA (R0×St)}{st:St}(c:Al F a st)(e:fK a):i0 st:=by obtain⟨h,i,d,g,_⟩:=c st.al st.sl;exact λb f=>g b (e _ _ d b f)
end
end
variable {F:WK} {Z:Wy Addr} {I:WF} {N O:St}
section
noncomputable def aK(a:Heap)(c:aF):Prop:=match c.fr with
 |true=>∃b,a.get? c.addr=some (ea c.obj b)
 |false=>a.get? c.addr=some c.obj
noncomputable def addrs(a:Wy aF):uh:=a.map (·.addr)
noncomputable def aS(a:WK):Wy Addr:=(a.frames.getD []).filterMap (·.frame)
noncomputable def eB(f:Nat->WA gi)(e:WK)(g:Heap):Prop:=
 ∃c,e.frames=some c/\∀b∈c,b.scope.kind≠ .module/\∃a d,b.frame=some a/\g.get? a=some d/\ew d=true/\f a=none
noncomputable def gq(c:Nat->WA gi)(d:Heap):Prop:=∀a b,c a=some b->d.get? a=some b
structure kF(o o':gi):Prop where
 nf:ew o=true->ew o'=true
 row:∀r,hQ o=some r->hQ o'=some r
theorem kF.refl(a:gi):kF a a:=⟨id,λω=>id⟩
theorem kF.trans{a b c:gi}(f:kF a b)(g:kF b c):kF a c:=⟨λd=>g.nf (f.nf d),λe d=>g.row e (f.row e d)⟩
noncomputable def FO(c:Heap)(e:Wz)(d:dh):Prop:=∃a b,e= .ref a/\c.get? a=some b/\hQ b=some d
noncomputable def eM{c d:Type}(b:c->d->Prop):Wy c->Wy d->Prop
 |[],[]=>True
 |a::f,e::g=>b a e/\eM b f g
 |_,_=>False
variable {c d:Type}
theorem eM.imp{e f:c->d->Prop}(j:∀h i,e h i->f h i){b:Wy c}{a:Wy d}(g:eM e b a):eM f b a:=by
 induction b generalizing a with
 |nil=>cases a<;>exact g
 |cons h b k=>
  cases a with
  |nil=>exact g
  |cons i a=>exact⟨j _ _ g.1,k g.2⟩
theorem eM.append{e:c->d->Prop}{b f:Wy c}{a g:Wy d}(h:eM e b a)(j:eM e f g):eM e (b++f) (a++g):=by
 induction b generalizing a with
 |nil=>
  cases a with
  |nil=>exact j
  |cons=>exact h.elim
 |cons k b i=>
  cases a with
  |nil=>exact h.elim
  |cons l a=>exact⟨h.1,i h.2⟩
noncomputable def dV(a:Heap)(B:jz):Prop:=eM (FO a) B.xs.toList B.rows
structure Step(fs as gs:Wy Addr)(s s1:WF):Prop where
 chg:∀b o,s.heap.get? b=some o->b∉as->s1.heap.get? b=some o\/(b∈fs/\∃sl,s1.heap.get? b=some (ea o sl))
 U7:∀b o,s.heap.get? b=some o->∃o',s1.heap.get? b=some o'/\kF o o'
 os:s1.os=s.os
 gens:∀g x,s.gens[g]?=some x->g∉gs->s1.gens[g]?=some x
theorem Step.refl(e d f:Wy Addr)(c:WF):Step e d f c c:=⟨λω ω a ω=>.inl a,λω b a=>⟨b,a,.refl b⟩,rfl,λω ω a ω=>a⟩
theorem Step.trans{a Z b as1 gs1:Wy Addr}{I s1 J:WF}(k:Step a Z b I s1)(i:Step a as1 gs1 s1 J)
 (o:∀c∈as1,c∈Z\/I.heap.get? c=none)(p:∀e∈gs1,e∈b\/I.gens[e]?=none):Step a Z b I J:=by
 refine⟨λc j d h=> ?_,λc j d=> ?_,i.os.trans k.os,λe n d h=> ?_⟩
 ·have m:c∉as1:=λq=>by
   rcases o c q with q|q
   ·exact h q
   ·rw[q]at d;cases d
  rcases k.chg c j d h with f|⟨l,w,f⟩
  ·exact i.chg c j f m
  ·rcases i.chg c _ f m with g|⟨_,x,g⟩
   ·exact .inr ⟨l,w,g⟩
   ·exact .inr ⟨l,x,g⟩
 ·obtain⟨t,f,r⟩:=k.U7 c j d;obtain⟨v,g,s⟩:=i.U7 c t f;exact⟨v,g,r.trans s⟩
 ·refine i.gens e n (k.gens e n d h) λq=> ?_
  rcases p e q with q|q
  ·exact h q
  ·rw[q]at d;cases d
variable {a b:Wy Addr}
theorem Step.UO{s1:WF}(m:Step a Z b I s1){B:jz}(e:dV I.heap B):dV s1.heap B:=eM.imp (λn l ⟨c,j,d,f,g⟩=>by
 obtain⟨k,h,i⟩:=m.U7 c j f;exact⟨c,k,d,h,i.row l g⟩) e
theorem Step.weaken{d c:Wy Addr}{s1:WF}(f:Step a Z b I s1)(k:∀e∈a,e∈d\/e∈c)(j:∀e∈Z,e∈c):Step d c b I s1:=by
 refine⟨λe l h g=> ?_,f.U7,f.os,f.gens⟩
 rcases f.chg e l h (λq=>g (j e q))with i|⟨q,m⟩
 ·exact .inl i
 ·rcases k e q with q|q
  ·exact .inr ⟨q,m⟩
  ·exact absurd q g
structure oi(A:WK)(d:Nat)(cx:Cx):Prop where
 hd:A.handled=cx.hd
 top:∀L,cx.top=some L->L∈aS A
 dep:A.depth+2*d<=900
 U9:A.units+12*d<=9000
structure MV(A:WK)(d:Nat)(cx:Cx):Prop where
 hd:A.handled=cx.hd
 top:∀L,cx.top=some L->L∈aS A
 dep:A.depth+2*d+2<=900
 U9:A.units+12*d+12<=9000
structure JP(A:WK)(d:Nat):Prop where
 hd:A.handled=none
 dep:A.depth+2*d+48<=900
 U9:A.units+12*d+80<=9000
noncomputable def gz(c:Nat->WA gi)(a:Addr)(d:Heap):Prop:=c a=none/\∃b,d.get? a=some b/\ew b=true
noncomputable def eg(a:Wy (Nat×WI)):uh:=a.map (·.1)
structure d7(K:Nat->WA gi)(E:mw)(fs:Wy Addr)(s:WF):Prop where
 pre:∀c∈E.pre,aK s.heap c/\K c.addr=none/\(c.fr=false->c.addr∉fs)
 nd:(addrs E.pre).Nodup
 UR:∀p∈E.UR,s.gens[p.1]?=some p.2
 U6:(eg E.UR).Nodup
 UX:∀B∈E.UX,dV s.heap B
structure eh(E:mw)(fs:Wy Addr)(al:AL)(sl:SL)(s s1:WF):Prop where
 step:Step fs (addrs E.pre) (eg E.UR) s s1
 len:(E.post al sl).length=E.pre.length
 post:∀q∈E.pre.zip (E.post al sl),aK s1.heap ⟨q.1.addr,q.2,q.1.fr⟩
 Vi:(E.UQ al sl).length=E.UR.length
 UQ:∀q∈E.UR.zip (E.UQ al sl),s1.gens[q.1.1]?=some q.2
 new:∀c∈E.new al sl,aK s1.heap c/\s.heap.get? c.addr=none
 VK:(addrs (E.new al sl)).Nodup
 UW:∀p∈E.UW al sl,s1.gens[p.1]?=some p.2/\s.gens[p.1]?=none
 Vj:(eg (E.UW al sl)).Nodup
 US:∀B∈E.US al sl,dV s1.heap B
 bare:AllBare s1.gens
section
variable (P:WJ) (w:WG) (K:Nat->WA gi)
@[reducible] noncomputable def runC (e:Model) (d:WK) (c:Code) (a:WH->WF->Prop) (f:WF):Prop:=match c with
 | .block j h=>wpAny e d (execs j h) (λi b=>a (.ok i) b) (λg b=>a (.error g) b) f
 |c=>codeAny e d c a f
theorem oF{a:Model}{c:Code}{b:WH->WF->Prop}(d:jA c=false):runC a F c b I=codeAny a F c b I:=by cases c<;>first|rfl|cases d
noncomputable def ct(S:Spec):Prop:=∀(b:WK) (R:WH->WF->Prop) (a:WF),MV b S.dep ⟨none,S.top⟩->eB K b a.heap->gq K a.heap->AllBare a.gens->d7 K S.UM (aS b) a->
 (∀c d s1,eh S.UM (aS b) c d a s1->R (S.res c d) s1)->runC (model P w) b S.code R a
noncomputable def gb(S:Seg):Prop:=∀(b:WK) (R:End->WF->Prop) (a:WF),JP b S.dep->eB K b a.heap->gz K S.fr a.heap->gq K a.heap->AllBare a.gens->d7 K S.UM (S.fr::aS b) a->
 (∀c d s1,eh S.UM (S.fr::aS b) c d a s1->R (S.res c d) s1)->SegX (model P w) b S.code (S.start.getD (denote table S.code)) S.fs a R
structure Rep(fs:Wy Addr)(st:St)(s:WF):Prop where
 cell:∀c∈st.led,aK s.heap c
 nd:(addrs st.led).Nodup
 nk:∀c∈st.led,K c.addr=none
 nf:∀c∈st.led,c.fr=false->c.addr∉fs
 base:gq K s.heap
 gen:∀p∈st.gl,s.gens[p.1]?=some p.2
 U6:(eg st.gl).Nodup
 bare:AllBare s.gens
 use:∀u∈st.use,∀c os fs,ct P w K (u.spec c os fs)
 UN:∀u∈st.UN,∀c os fs,gb P w K (u.seg c os fs)
 UO:∀B∈st.bl,dV s.heap B
end
section
variable {R0:Type} {P:WJ} {w:WG} {K:Nat->WA gi}
structure aX(fs:Wy Addr)(st:St)(s:WF)(st1:St)(s1:WF):Prop where
 step:Step fs (addrs st.led) (eg st.gl) s s1
 led:∀c∈st1.led,c.addr∈addrs st.led\/s.heap.get? c.addr=none
 gl:∀p∈st1.gl,p.1∈eg st.gl\/s.gens[p.1]?=none
theorem aX.refl(d:Wy Addr)(c:St)(b:WF):aX d c b c b:=⟨.refl ..,λω a=>.inl (t8 a),λω a=>.inl (t8 a)⟩
theorem aX.trans{Z:Wy Addr}{N O a:St}{I s1 J:WF}(b:aX Z N I O s1)(j:aX Z O s1 a J):aX Z N I a J:=by
 refine⟨b.step.trans j.step (λp m=> ?_) (λr n=> ?_),λc d=> ?_,λi o=> ?_⟩
 ·obtain⟨c,d,rfl⟩:=ua m;exact b.led c d
 ·obtain⟨c,d,rfl⟩:=ua n;exact b.gl c d
 ·rcases j.led c d with q|q
  ·obtain⟨e,h,f⟩:=ua q;rw[<-f];exact b.led e h
  ·refine .inr ?_;cases g:I.heap.get? c.addr with
   |none=>rfl
   |some s=>obtain⟨t,k,_⟩:=b.step.U7 _ _ g;rw[q]at k;cases k
 ·rcases j.gl i o with q|q
  ·obtain⟨e,h,f⟩:=ua q;rw[<-f];exact b.gl e h
  ·by_cases l:i.1∈eg N.gl
   ·exact .inl l
   ·refine .inr ?_;cases g:I.gens[i.1]? with
    |none=>rfl
    |some v=>rw[b.step.gens _ _ g l]at q;cases q
theorem eB.UU{s1:WF}(o:eB K F I.heap)(p:aX Z N I O s1):eB K F s1.heap:=by
 obtain⟨m,h,c⟩:=o;refine⟨m,h,λb e=> ?_⟩
 obtain⟨g,a,q,f,k,i,d⟩:=c b e;obtain⟨n,l,j⟩:=p.step.U7 _ _ k;exact⟨g,a,n,f,l,j.nf i,d⟩
theorem eB.under{a:Heap}(f:eB K F a){B:WK}(b:B.frames=F.frames):eB K B a:=by obtain⟨d,c,e⟩:=f;exact⟨d,b.trans c,e⟩
theorem aX.same(s:WF)(c:O.led=N.led)(d:O.gl=N.gl):aX Z N s O s:=by
 refine⟨.refl ..,λe a=>.inl ?_,λf b=>.inl ?_⟩
 ·rw[c]at a;exact t8 a
 ·rw[d]at b;exact t8 b
theorem Rep.same{s:WF}(a:Rep P w K Z N s)(b:O.led=N.led)(c:O.gl=N.gl)(d:O.use=N.use)(e:O.UN=N.UN)(f:O.bl=N.bl:=by rfl):Rep P w K Z O s:=by
 refine⟨?_, ?_, ?_, ?_,a.base, ?_, ?_,a.bare, ?_, ?_, ?_⟩
 ·rw[b];exact a.cell
 ·rw[b];exact a.nd
 ·rw[b];exact a.nk
 ·rw[b];exact a.nf
 ·rw[c];exact a.gen
 ·rw[c];exact a.U6
 ·rw[d];exact a.use
 ·rw[e];exact a.UN
 ·rw[f];exact a.UO
theorem aW:∀(a:Wy aF) (d:Nat) (b:gi),addrs (da a d b)=addrs a
 |[],_,_=>rfl
 |c::a,0,b=>rfl
 |c::a,d+1,b=>congrArg (c.addr:: ·) (aW a d b)
theorem hV:∀{d:Wy aF} {h:Nat} {i:gi} {c:aF},cellAt d h=some c->∀f∈da d h i,f=⟨c.addr,i,c.fr⟩\/(f∈d/\(f.addr=c.addr->(addrs d).Nodup->False))
 |[],_,_,_,e,_,_=>by simp[cellAt]at e
 |a::d,0,i,c,e,f,j=>by
  simp only[cellAt,List.getElem?_cons_zero,Option.some.injEq]at e;subst e;rcases t6 j with q|q
  ·exact .inl q
  ·refine .inr ⟨.tail _ q,λg b=> ?_⟩
   simp only[addrs,List.map_cons,List.nodup_cons]at b;exact b.1 (g▸t8 q)
 |a::d,h+1,i,c,e,f,j=>by
  have k:cellAt d h=some c:=by simpa[cellAt]using e
  rcases t6 j with q|q
  ·subst q;refine .inr ⟨.head _,λg b=> ?_⟩
   simp only[addrs,List.map_cons,List.nodup_cons]at b;exact b.1 (g▸t8 (t9 k))
  ·rcases hV k f q with l|⟨m,n⟩
   ·exact .inl l
   ·refine .inr ⟨.tail _ m,λg b=>n g ?_⟩
    simp only[addrs,List.map_cons,List.nodup_cons]at b;exact b.2
end
end
variable {d:Nat}
section
section
variable {R0:Type} {P:WJ} {w:WG} {K:Nat->WA gi} {F:R0->St->Prop}
theorem aK.get{a:Heap}{c:aF}(b:aK a c):∃d,a.get? c.addr=some d/\d.data=c.obj.data:=by
 unfold aK at b;split at b
 ·obtain⟨f,e⟩:=b;exact⟨_,e,rfl⟩
 ·exact⟨_,b,rfl⟩
variable {a:gi}
theorem wU{b:gi}(c:b.data=a.data):ew b=ew a:=by unfold ew;rw[c]
variable {c:aF}
theorem aK.same{a b:Heap}(d:aK a c)(e:b.get? c.addr=a.get? c.addr):aK b c:=by unfold aK at*;split at d<;>(rw[e];exact d)
variable {st1:St}
theorem gm(e:Rep P w K Z N I){f:gi->gi}{o':gi}
 (m:cellAt N.led d=some c)(s:I.heap.get? c.addr=some a)(v:(f a).isFreed=false)(M:∀n:Heap,n.get? c.addr=some (f a)->aK n ⟨c.addr,o',c.fr⟩)(J:kF a (f a))
 (k:st1.led=da N.led d o')(r:st1.gl=N.gl)(C:st1.use=N.use)(D:st1.UN=N.UN)(G:st1.bl=N.bl:=by rfl):
  Rep P w K Z st1 {I with heap:=I.heap.update c.addr f}/\aX Z N I st1 {I with heap:=I.heap.update c.addr f}:=by
 have y:(I.heap.update c.addr f).get? c.addr=some (f a):=by first|exact Heap.get?_update_self f s v|exact Heap.get?_update_self _ s v
 have p:∀i,i≠c.addr->(I.heap.update c.addr f).get? i=I.heap.get? i:=λi j=>Heap.get?_update_ne _ _ _ _ j
 have o:=t9 m;have z:Step Z (addrs N.led) (eg N.gl) I {I with heap:=I.heap.update c.addr f}:=⟨λi ob j L=>.inl (by
  have:i≠c.addr:=λb=>L (b▸t8 o)
  refine(?_:(I.heap.update c.addr f).get? i=some ob);rw[p _ this];exact j),λi ob j=>(by
  by_cases b:i=c.addr
  ·subst b;rw[s]at j;cases j;exact⟨_,y,J⟩
  ·exact⟨ob,(p _ b).trans j,.refl _⟩),rfl,λO g n ω=>n⟩
 refine⟨⟨λg h=> ?_, ?_,λg h=> ?_,λg h A=> ?_,λq a b=> ?_, ?_, ?_,e.bare, ?_, ?_,λB H=>z.UO (e.UO B (G▸H))⟩,⟨z,λg h=> ?_,λQ x=> ?_⟩⟩
 ·rw[k]at h;rcases hV m g h with b|⟨l,t⟩
  ·subst b;exact M _ y
  ·have:g.addr≠c.addr:=λb=>t b e.nd
   exact(e.cell g l).same (p _ this)
 ·rw[k,aW];exact e.nd
 ·rw[k]at h;rcases hV m g h with b|⟨l,t⟩
  ·subst b;exact e.nk c o
  ·exact e.nk g l
 ·rw[k]at h;rcases hV m g h with b|⟨l,t⟩
  ·subst b;exact e.nf c o A
  ·exact e.nf g l A
 ·have:q≠c.addr:=λg=>by rw[g,e.nk c o]at b;cases b
  refine(?_:(I.heap.update c.addr f).get? q=some a);rw[p _ this];exact e.base q a b
 ·rw[r];exact e.gen
 ·rw[r];exact e.U6
 ·rw[C];exact e.use
 ·rw[D];exact e.UN
 ·left;rw[k]at h;have:g.addr∈addrs (da N.led d o'):=t8 h;rwa[aW]at this
 ·rw[r]at x;exact .inl (t8 x)
theorem hI(a:Heap):a.get? a.objs.size=none:=by
 cases b:a.get? a.objs.size with
 |none=>rfl
 |some c=>exact absurd (Heap.lt_size b) (Nat.lt_irrefl _)
theorem kG(a:Rep P w K Z N I)(A:∀s∈Z,∃ob,I.heap.get? s=some ob){o:gi}{b:Bool}(z:o.isFreed=false)(h:st1.led=⟨I.heap.objs.size,o,b⟩::N.led)(j:st1.gl=N.gl)(t:st1.use=N.use)(v:st1.UN=N.UN)(x:st1.bl=N.bl:=by rfl):
  Rep P w K Z st1 {I with heap:=I.heap.push o}/\aX Z N I st1 {I with heap:=I.heap.push o}:=by
 have i:∀b ob,I.heap.get? b=some ob->(I.heap.push o).get? b=some ob:=λb ob c=>Heap.get?_push_of_some _ c
 have l:(I.heap.push o).get? I.heap.objs.size=some o:=Heap.get?_push_size _ z;have fresh:∀e∈N.led,e.addr≠I.heap.objs.size:=λe g q=>by
  obtain⟨ob,c,_⟩:=(a.cell e g).get;exact absurd (Heap.lt_size c) (by rw[q];exact Nat.lt_irrefl _)
 have G:∀e∈N.led,aK (I.heap.push o) e:=λe g=>by
  obtain⟨ob,c,_⟩:=(a.cell e g).get;exact(a.cell e g).same ((i _ _ c).trans c.symm)
 have n:Step Z (addrs N.led) (eg N.gl) I {I with heap:=I.heap.push o}:=⟨λb ob k J=>.inl (i _ _ k),λb ob k=>⟨ob,i _ _ k,.refl _⟩,rfl,λH f c ω=>c⟩
 refine⟨⟨λf d=> ?_, ?_,λf d=> ?_,λf d D=> ?_,λp o q=>i _ _ (a.base p o q), ?_, ?_,a.bare, ?_, ?_,λB y=>n.UO (a.UO B (x▸y))⟩,⟨n,λf d=> ?_,λL m=> ?_⟩⟩
 ·rw[h]at d;rcases t6 d with q|q
  ·subst q;unfold aK;cases b with
   |true=>exact⟨o.slots,l⟩
   |false=>exact l
  ·exact G f q
 ·rw[h];refine List.nodup_cons.mpr ⟨λq=> ?_,a.nd⟩
  obtain⟨e,g,r⟩:=ua q;exact fresh e g r
 ·rw[h]at d;rcases t6 d with q|q
  ·subst q;cases q:K I.heap.objs.size with
   |none=>rfl
   |some ob=>have:=a.base _ _ q;rw[hI]at this;cases this
  ·exact a.nk f q
 ·rw[h]at d;rcases t6 d with q|q
  ·subst q;intro C;obtain⟨ob,c⟩:=A _ C;rw[hI]at c;cases c
  ·exact a.nf f q D
 ·rw[j];exact a.gen
 ·rw[j];exact a.U6
 ·rw[t];exact a.use
 ·rw[v];exact a.UN
 ·rw[h]at d;rcases t6 d with q|q
  ·subst q;exact .inr (hI _)
  ·exact .inl (t8 q)
 ·rw[j]at m;exact .inl (t8 m)
theorem u9(a:Rep P w K Z N I){c:Code}(f:st1.led=N.led)(i:st1.gl=(I.gens.size,.fresh c)::N.gl)(p:st1.use=N.use)(r:st1.UN=N.UN)(s:st1.bl=N.bl:=by rfl):
  Rep P w K Z st1 {I with gens:=I.gens.push (.fresh c)}/\aX Z N I st1 {I with gens:=I.gens.push (.fresh c)}:=by
 have l:∀e d,I.gens[e]?=some d->(I.gens.push (GenState.fresh c))[e]?=some d:=λe d g=>by
  rw[Array.getElem?_push];have:=(Array.getElem?_eq_some_iff.mp g).1;rw[if_neg (by lia)];exact g
 have k:I.gens[I.gens.size]?=none:=by simp
 refine⟨⟨?_, ?_, ?_, ?_,a.base,λh b=> ?_, ?_,a.bare.push rfl, ?_, ?_,λB t=>a.UO B (s▸t)⟩,⟨⟨λn ob j ω=>.inl j,λn ob j=>⟨ob,j,.refl _⟩,rfl,λe d g ω=>l e d g⟩,λd m=> ?_,λh b=> ?_⟩⟩
 ·rw[f];exact a.cell
 ·rw[f];exact a.nd
 ·rw[f];exact a.nk
 ·rw[f];exact a.nf
 ·rw[i]at b;rcases t6 b with q|q
  ·subst q;refine(?_:(I.gens.push (GenState.fresh c))[I.gens.size]?=_);simp
  ·exact l _ _ (a.gen h q)
 ·rw[i];refine List.nodup_cons.mpr ⟨λq=> ?_,a.U6⟩
  obtain⟨h,b,o⟩:=ua q;have:=a.gen h b;rw[o,k]at this;cases this
 ·rw[p];exact a.use
 ·rw[r];exact a.UN
 ·rw[f]at m;exact .inl (t8 m)
 ·rw[i]at b;rcases t6 b with q|q
  ·subst q;exact .inr k
  ·exact .inl (t8 q)
end
end
theorem i5{c:Code}(b:b9 c):(F.under c).frames=F.frames:=by
 have a:c.envs=[]:=by unfold Code.envs;rw[b.fr];rfl
 refine(?_:pushEnvs c.envs F.frames=F.frames);rw[a];cases F.frames<;>rfl
variable {W:uh} {e:Nat}
section
variable {f:Type}
theorem aU{x:f}{a:Prop}(b:none=some x):a:=by cases b
theorem mX{a:uh}(b:e∈a):s7 e a=true:=by
 induction b with
 |head a=>
  unfold s7;rw[Nat.beq_refl]
 |tail d _ c=>
  unfold s7;rw[c];cases Nat.beq e d<;>rfl
variable {b:Wy g8}
theorem io{d:aF}{c a:Wy aF}(g:collect (e::W) (d::c) a=some b)(i:∀h∈b,h.ok):
  ∃f j,cellAt a e=some f/\s7 e W=false/\collect W c a=some j/\(∀h∈j,h.ok)/\f.addr=d.addr/\f.fr=d.fr/\(d.fr=false->f.obj=d.obj)/\kA f.obj=kA d.obj:=by
 have g:(match cellAt a e with
  |some f=>match f.fr,d.fr,s7 e W with
   |_,_,true=>none
   |true,true,false=>match collect W c a with
    |some b=>some (.n f.addr d.addr:: .o (kA f.obj) (kA d.obj)::b)
    |none=>none
   |false,false,false=>match collect W c a with
    |some b=>some (.n f.addr d.addr:: .o f.obj d.obj::b)
    |none=>none
   |_,_,_=>none
  |none=>none)=some b:=g
 generalize x:cellAt a e=t at g;cases t with
 |none=>exact aU (x:=b) g
 |some f=>
  have g:(match f.fr,d.fr,s7 e W with
   |_,_,true=>none
   |true,true,false=>match collect W c a with
    |some b=>some (.n f.addr d.addr:: .o (kA f.obj) (kA d.obj)::b)
    |none=>none
   |false,false,false=>match collect W c a with
    |some b=>some (.n f.addr d.addr:: .o f.obj d.obj::b)
    |none=>none
   |_,_,_=>none)=some b:=g
  generalize z:s7 e W=s at g;generalize q:f.fr=l at g;generalize w:d.fr=k at g;generalize y:collect W c a=r at g;cases s with
  |true=>cases l<;>cases k<;>exact aU (x:=b) g
  |false=>
   cases r with
   |none=>cases l<;>cases k<;>exact aU (x:=b) g
   |some j=>
    cases l with
    |true=>
     cases k with
     |false=>exact aU (x:=b) g
     |true=>
      cases g;exact⟨f,j,rfl,rfl,rfl,λh m=>i h (.tail _ (.tail _ m)),i _ (.head _),q,λv=>Bool.noConfusion v,i _ (.tail _ (.head _))⟩
    |false=>
     cases k with
     |true=>exact aU (x:=b) g
     |false=>
      cases g;have p:f.obj=d.obj:=i _ (.tail _ (.head _));exact⟨f,j,rfl,rfl,rfl,λh m=>i h (.tail _ (.tail _ m)),i _ (.head _),q,λω=>p,congrArg kA p⟩
theorem qO{g:f->Nat}{a:Wy f}(k:(a.map g).Nodup){c b:f}(h:a[e]?=some c)(j:a[d]?=some b)(i:g c=g b):e=d:=
 (List.getElem?_inj (by rw[List.length_map];exact(List.getElem?_eq_some_iff.mp h).1) k).1 (by rw[List.getElem?_map,List.getElem?_map,h,j];exact congrArg some i)
theorem hv{c a:Wy aF}(h:collect W c a=some b)(o:∀f∈b,f.ok):
  ∀e∈c,∃g∈W,∃d,cellAt a g=some d/\d.addr=e.addr/\d.fr=e.fr/\(e.fr=false->d.obj=e.obj)/\kA d.obj=kA e.obj:=by
 induction c generalizing W b with
 |nil=>exact λe l=>(List.not_mem_nil l).elim
 |cons e c n=>
  cases W with
  |nil=>exact aU (x:=b) h
  |cons g W=>
   obtain⟨d,t,i,v,j,p,f⟩:=io h o;exact List.forall_mem_cons.2 ⟨⟨g,.head _,d,i,f⟩,λs m=>let ⟨q,k,r⟩:=n j p s m;⟨q,.tail _ k,r⟩⟩
theorem j7{a:Wy aF}(i:(addrs a).Nodup){c b:aF}(g:cellAt a e=some c)(h:cellAt a d=some b)(f:c.addr=b.addr):e=d:=qO i g h f
theorem jS{c a:Wy aF}(e:collect W c a=some b)(q:∀d∈b,d.ok)(m:(addrs a).Nodup):(addrs c).Nodup:=by
 induction c generalizing W b with
 |nil=>exact List.nodup_nil
 |cons A c p=>
  cases W with
  |nil=>exact aU (x:=b) e
  |cons r W=>
   obtain⟨v,z,i,k,f,g,e1,e2,e3,y⟩:=io e q;refine List.nodup_cons.mpr ⟨λl=> ?_,p f g⟩
   obtain⟨t,o,d⟩:=ua l;obtain⟨s,n,w,j,h,_⟩:=hv f g t o;obtain rfl:r=s:=j7 m i j (e1.trans (d.symm.trans h.symm));exact Bool.false_ne_true (k.symm.trans (mX n))
theorem hJ:∀(c:uh) (b:uk) (a:Wy aF),addrs (ec c b a)=addrs a
 |[],_,_=>rfl
 |_::_,[],_=>rfl
 |e::c,d::b,a=>(hJ c b _).trans (aW ..)
variable {p:Nat}
theorem qQ{a:Wy aF}{c:aF}(e:cellAt a p=some c)(f:gi)(b:Nat):cellAt (da a p f) b=if b=p then some ⟨c.addr,f,c.fr⟩else cellAt a b:=by
 induction a generalizing p b with
 |nil=>exact aU (x:=c) e
 |cons g a h=>
  cases p with
  |zero=>
   obtain rfl:g=c:=Option.some.inj e;cases b with
   |zero=>exact(if_pos rfl).symm
   |succ b=>exact(if_neg (Nat.succ_ne_zero b)).symm
  |succ p=>
   cases b with
   |zero=>exact(if_neg (Nat.succ_ne_zero p).symm).symm
   |succ b=>
    refine(h (p:=p) e b).trans ?_
    by_cases d:b=p
    ·rw[if_pos d,if_pos (congrArg Nat.succ d)]
    ·rw[if_neg d,if_neg (λi=>d (Nat.succ.inj i))];rfl
variable {ps:uh}
theorem lX{c:Wy aF}{os:uk}{l a:Wy aF}(o:collect ps c a=some b)(L:∀e∈b,e.ok)(w:(addrs l).Nodup)
 (v:∀m g,cellAt a m=some g->∃h,cellAt l m=some h/\h.fr=g.fr/\h.addr=g.addr)(t:os.length=c.length):
  ∀d∈ec ps os l,(d∈l/\d.addr∉addrs c)\/(∃k∈c.zip os,d.addr=k.1.addr/\d.obj=k.2/\d.fr=k.1.fr):=by
 induction c generalizing ps b os l with
 |nil=>
  cases ps with
  |nil=>exact λd q=>.inl ⟨q,List.not_mem_nil⟩
  |cons j ps=>exact aU (x:=b) o
 |cons m c H=>
  cases ps with
  |nil=>exact aU (x:=b) o
  |cons j ps=>
   cases os with
   |nil=>exact Nat.noConfusion t
   |cons ob os=>
    obtain⟨g,Q,y,T,A,M,e1,e2,e3,O⟩:=io o L;obtain⟨h,p,z,s⟩:=v j g y;intro d q;have D:∀f i,cellAt a f=some i->∃c3,cellAt (da l j ob) f=some c3/\c3.fr=i.fr/\c3.addr=i.addr:=λf i x=>by
     obtain⟨c3,r,n⟩:=v f i x;rw[qQ p]
     by_cases e:f=j
     ·subst e;obtain rfl:h=c3:=Option.some.inj (p.symm.trans r);exact⟨_,if_pos rfl,n⟩
     ·exact⟨c3,(if_neg e).trans r,n⟩
    rcases H (ps:=ps) (os:=os) (l:=da l j ob) A M ((aW ..).symm▸w) D (Nat.succ.inj t) d q with⟨I,J⟩|⟨k,G,n⟩
    ·rcases hV p d I with e|⟨N,f⟩
     ·subst e;exact .inr ⟨(m,ob),.head _,s.trans e1,rfl,z.trans e2⟩
     ·refine .inl ⟨N,λC=> ?_⟩
      rcases t6 C with e|e
      ·exact f (e.trans (s.trans e1).symm) w
      ·exact J e
    ·exact .inr ⟨k,.tail _ G,n⟩
variable {c a:Wy (Nat×WI)}
theorem hK{d:Nat×WI}(f:dR (e::W) (d::c) a=some b)(j:∀g∈b,g.ok):
  ∃i,a[e]?=some d/\s7 e W=false/\dR W c a=some i/\(∀g∈i,g.ok):=by
 have f:(match a[e]? with
  |some h=>match s7 e W with
   |true=>none
   |false=>match dR W c a with
    |some b=>some (.n h.1 d.1:: .g h.2 d.2::b)
    |none=>none
  |none=>none)=some b:=f
 generalize p:a[e]?=o at f;cases o with
 |none=>exact aU (x:=b) f
 |some h=>
  generalize r:s7 e W=m at f;generalize q:dR W c a=l at f;cases m with
  |true=>exact aU (x:=b) f
  |false=>
   cases l with
   |none=>exact aU (x:=b) f
   |some i=>
    cases f;obtain rfl:h=d:=Prod.ext (j _ (.head _)) (j _ (.tail _ (.head _)));exact⟨i,rfl,rfl,rfl,λg k=>j g (.tail _ (.tail _ k))⟩
theorem gK(f:dR W c a=some b)(n:∀g∈b,g.ok):∀e∈c,∃d∈W,a[d]?=some e:=by
 induction c generalizing W b with
 |nil=>exact λe k=>(List.not_mem_nil k).elim
 |cons e c m=>
  cases W with
  |nil=>exact aU (x:=b) f
  |cons d W=>
   obtain⟨s,h,t,i,o⟩:=hK f n;exact List.forall_mem_cons.2 ⟨⟨d,.head _,h⟩,λr l=>let ⟨p,j,q⟩:=m i o r l;⟨p,.tail _ j,q⟩⟩
theorem i6(e:dR W c a=some b)(p:∀d∈b,d.ok)(l:(eg a).Nodup):(eg c).Nodup:=by
 induction c generalizing W b with
 |nil=>exact List.nodup_nil
 |cons v c o=>
  cases W with
  |nil=>exact aU (x:=b) e
  |cons q W=>
   obtain⟨t,h,j,f,g⟩:=hK e p;refine List.nodup_cons.mpr ⟨λk=> ?_,o f g⟩
   obtain⟨s,n,d⟩:=ua k;obtain⟨r,m,i⟩:=gK f g s n;obtain rfl:q=r:=qO l h i d.symm;exact Bool.false_ne_true (j.symm.trans (mX m))
theorem i7:∀(a:Wy (Nat×WI)) (d:Nat) (b:WI),eg (il a d b)=eg a
 |[],_,_=>rfl
 |c::a,0,b=>rfl
 |c::a,d+1,b=>congrArg (c.1:: ·) (i7 a d b)
theorem ip:∀(c:uh) (b:Wy WI) (a:Wy (Nat×WI)),eg (dU c b a)=eg a
 |[],_,_=>rfl
 |_::_,[],_=>rfl
 |e::c,d::b,a=>(ip c b _).trans (i7 ..)
theorem wV{c:Nat×WI}(e:a[p]?=some c)(f:WI)(b:Nat):(il a p f)[b]?=if b=p then some (c.1,f)else a[b]?:=by
 induction a generalizing p b with
 |nil=>exact aU (x:=c) e
 |cons g a h=>
  cases p with
  |zero=>
   obtain rfl:g=c:=Option.some.inj e;cases b with
   |zero=>exact(if_pos rfl).symm
   |succ b=>exact(if_neg (Nat.succ_ne_zero b)).symm
  |succ p=>
   cases b with
   |zero=>exact(if_neg (Nat.succ_ne_zero p).symm).symm
   |succ b=>
    refine(h (p:=p) e b).trans ?_
    by_cases d:b=p
    ·rw[if_pos d,if_pos (congrArg Nat.succ d)]
    ·rw[if_neg d,if_neg (λi=>d (Nat.succ.inj i))];rfl
theorem mY{b:WI}{c:Nat×WI}(i:a[d]?=some c):∀e∈il a d b,e=(c.1,b)\/(e∈a/\(e.1=c.1->(eg a).Nodup->False)):=by
 induction a generalizing d with
 |nil=>exact aU (x:=c) i
 |cons j a m=>
  intro e l;cases d with
  |zero=>
   obtain rfl:j=c:=Option.some.inj i;rcases t6 l with q|q
   ·exact .inl q
   ·exact .inr ⟨.tail _ q,λg h=>(List.nodup_cons.mp h).1 (show j.1∈a.map Prod.fst from g▸t8 (f:=Prod.fst) q)⟩
  |succ d=>
   have k:a[d]?=some c:=i;rcases t6 l with q|q
   ·subst q;exact .inr ⟨.head _,λg h=>(List.nodup_cons.mp h).1 (show e.1∈a.map Prod.fst from g▸t8 (f:=Prod.fst) (t9 k))⟩
   ·rcases m k e q with n|⟨o,p⟩
    ·exact .inl n
    ·exact .inr ⟨.tail _ o,λg h=>p g (List.nodup_cons.mp h).2⟩
theorem kH{os:Wy WI}{l:Wy (Nat×WI)}(n:dR ps c a=some b)(J:∀e∈b,e.ok)(w:(eg l).Nodup)
 (v:∀(h:Nat) q,a[h]?=some q->∃i,l[h]?=some i/\i.1=q.1)(t:os.length=c.length):
  ∀f∈dU ps os l,(f∈l/\f.1∉eg c)\/(∃m∈c.zip os,f=(m.1.1,m.2)):=by
 induction c generalizing ps b os l with
 |nil=>
  cases ps with
  |nil=>exact λf p=>.inl ⟨p,List.not_mem_nil⟩
  |cons g ps=>exact aU (x:=b) n
 |cons h c G=>
  cases ps with
  |nil=>exact aU (x:=b) n
  |cons g ps=>
   cases os with
   |nil=>exact Nat.noConfusion t
   |cons ob os=>
    obtain⟨N,y,O,z,L⟩:=hK n J;obtain⟨i,o,s⟩:=v g h y;intro f p;have C:∀(d:Nat) j,a[d]?=some j->∃c3,(il l g ob)[d]?=some c3/\c3.1=j.1:=λd j x=>by
     obtain⟨c3,r,k⟩:=v d j x;rw[wV o]
     by_cases e:d=g
     ·subst e;obtain rfl:i=c3:=Option.some.inj (o.symm.trans r);exact⟨_,if_pos rfl,k⟩
     ·exact⟨c3,(if_neg e).trans r,k⟩
    rcases G (ps:=ps) (os:=os) (l:=il l g ob) z L ((i7 ..).symm▸w) C (Nat.succ.inj t) f p with⟨H,I⟩|⟨m,D,k⟩
    ·rcases mY o f H with e|⟨M,d⟩
     ·exact .inr ⟨(h,ob),.head _,by rw[e,s]⟩
     ·refine .inl ⟨M,λA=> ?_⟩
      rcases t6 A with e|e
      ·exact d (e.trans s.symm) w
      ·exact I e
    ·exact .inr ⟨m,.tail _ D,k⟩
end
variable {y:AL}
section
section
variable {R0:Type} {P:WJ} {w:WG} {K:Nat->WA gi} {F:R0->St->Prop}
theorem aK.of{b:Heap}{c a:aF}(d:aK b c)(e1:c.addr=a.addr)(e2:c.fr=a.fr)(e3:a.fr=false->c.obj=a.obj)(h:kA c.obj=kA a.obj):aK b a:=by
 unfold aK at*;rw[e2]at d;cases f:a.fr with
 |true=>
  rw[f]at d;obtain⟨e,g⟩:=d;have:ea c.obj e=ea a.obj e:=by
   have:=congrArg (ea · e) h;exact this
  exact⟨e,by rw[<-e1,<-this];exact g⟩
 |false=>
  rw[f]at d;rw[<-e1,<-e3 f];exact d
theorem lY(n:Rep P w K Z N I):∀{a:ui×Wy dh},kB W N.led=some a->eM (FO I.heap) a.1 a.2:=by
 induction W with
 |nil=>intro a b;cases b;trivial
 |cons f W l=>
  intro a b;have b:(match cellAt N.led f with
   |some c=>match c.fr,hQ c.obj,kB W N.led with
    |false,some d,some a=>some (.ref c.addr::a.1,d::a.2)
    |_,_,_=>none
   |none=>none)=some a:=b
  generalize i:cellAt N.led f=m at b;cases m with
  |none=>exact aU (x:=a) b
  |some c=>
   have b:(match c.fr,hQ c.obj,kB W N.led with
    |false,some d,some a=>some (.ref c.addr::a.1,d::a.2)
    |_,_,_=>none)=some a:=b
   have e:=n.cell c (t9 i);unfold aK at e;generalize k:hQ c.obj=d at b;generalize j:kB W N.led=g at b;revert e;generalize c.fr=h at b;intro e;cases h with
   |true=>exact aU (x:=a) b
   |false=>
    cases d with
    |none=>exact aU (x:=a) b
    |some d=>
     cases g with
     |none=>exact aU (x:=a) b
     |some g=>
      cases b;exact⟨⟨c.addr,c.obj,rfl,e,k⟩,l j⟩
theorem jB(d:Rep P w K Z N I){a:f8}:∀{B:jz},j5 N.led N.bl a=some B->dV I.heap B:=by
 induction a with
 |cells h=>
  intro B b;have b:(match kB h N.led with
   |some c=>some (⟨⟨c.1⟩,c.2⟩:jz)
   |none=>none)=some B:=b
  generalize l:kB h N.led=c at b;cases c with
  |none=>exact aU (x:=B) b
  |some c=>
   cases b;exact lY d l
 |UO q=>exact λb=>d.UO _ (t9 b)
 |app f g o p=>
  intro B b;have b:(match j5 N.led N.bl f,j5 N.led N.bl g with
   |some d,some e=>some (⟨d.xs++e.xs,d.rows++e.rows⟩:jz)
   |_,_=>none)=some B:=b
  generalize m:j5 N.led N.bl f=e at b;generalize n:j5 N.led N.bl g=i at b;cases e with
  |none=>exact aU (x:=B) b
  |some e=>
   cases i with
   |none=>exact aU (x:=B) b
   |some i=>
    cases b;have j:=o m;have k:=p n;unfold dV at*;rw[Array.toList_append];exact eM.append j k
theorem lZ(f:Rep P w K Z N I){a:Wy jz}:∀{e:Wy f8} {b:Wy g8},fH N.led N.bl e a=some b->(∀d∈b,d.ok)->∀B∈a,dV I.heap B:=by
 induction a with
 |nil=>exact λω ω B k=>(List.not_mem_nil k).elim
 |cons h a o=>
  intro e b c i;cases e with
  |nil=>exact aU (x:=b) c
  |cons s1 j=>
   have c:(match j5 N.led N.bl s1,fH N.led N.bl j a with
    |some f,some b=>some (.bu f h::b)
    |_,_=>none)=some b:=c
   generalize n:j5 N.led N.bl s1=g at c;generalize m:fH N.led N.bl j a=p at c;cases g with
   |none=>exact aU (x:=b) c
   |some g=>
    cases p with
    |none=>exact aU (x:=b) c
    |some q=>
     cases c;have d:g=h:=i _ (.head _);exact List.forall_mem_cons.2 ⟨d▸jB f n,o m λd l=>i d (.tail _ l)⟩
variable {b d:Wy g8} {c:uh}
theorem yu{e:Wy Addr}(g:Rep P w K Z N I){E:mw}(o:collect c E.pre N.led=some b)(p:dR W E.UR N.gl=some d){a:Wy f8}{f:Wy g8}(v:fH N.led N.bl a E.UX=some f)
 (q:∀h∈b,h.ok)(n:∀h∈d,h.ok)(s:∀h∈f,h.ok)(x:∀r∈e,r∈Z):d7 K E e I:=by
 refine⟨λi m=> ?_,jS o q g.nd,λi m=> ?_,i6 p n g.U6,lZ g v s⟩
 ·obtain⟨A,_,j,k,e1,e2,e3,t⟩:=hv o q i m;have l:=t9 k;exact⟨(g.cell j l).of e1 e2 e3 t,e1▸g.nk j l,λy z=>g.nf j l (e2.trans y) (e1▸x _ z)⟩
 ·obtain⟨A,_,k⟩:=gK p n i m;exact g.gen i (t9 k)
theorem vb{st1:St}{s1:WF}(k:Rep P w K Z N I){E:mw}{a:SL}
 (o:collect c E.pre N.led=some b)(a4:dR W E.UR N.gl=some d)(a6:∀f∈b,f.ok)(X:∀f∈d,f.ok)(g:eh E Z y a I s1)
 (a3:∀J∈Z,K J=none/\∃ob,I.heap.get? J=some ob)
 (A:st1.led=E.new y a++ec c (E.post y a) N.led)(L:st1.gl=E.UW y a++dU W (E.UQ y a) N.gl)
 (ah:∀R∈st1.use,∀e F Z,ct P w K (R.spec e F Z))(ai:∀R∈st1.UN,∀e F Z,gb P w K (R.seg e F Z))(aj:st1.bl=E.US y a++N.bl):
  Rep P w K Z st1 s1/\aX Z N I st1 s1:=by
 have V:=hv o a6;have af:=gK a4 X;have a7:=lX (os:=E.post y a) (l:=N.led) o a6 k.nd (λq e h=>⟨e,h,rfl,rfl⟩) g.len
 have ag:=kH (os:=E.UQ y a) (l:=N.gl) a4 X k.U6 (λq e h=>⟨e,h,rfl⟩) g.Vi
 have Y:∀e∈ec c (E.post y a) N.led,e.addr∈addrs N.led:=λe o=>by
  have:=t8 (f:=aF.addr) o;have f:=hJ c (E.post y a) N.led;unfold addrs at f;rw[f]at this;exact this
 have a0:∀e∈dU W (E.UQ y a) N.gl,e.1∈eg N.gl:=λe o=>by
  have:=t8 (f:=Prod.fst) o;have f:=ip W (E.UQ y a) N.gl;unfold eg at f;rw[f]at this;exact this
 have an:∀j∈addrs N.led,∃ob,I.heap.get? j=some ob:=λj x=>by
  obtain⟨e,o,rfl⟩:=ua x;obtain⟨ob,h,_⟩:=(k.cell e o).get;exact⟨ob,h⟩
 have ae:∀j∈eg N.gl,∃ob,I.gens[j]?=some ob:=λj x=>by
  obtain⟨e,o,rfl⟩:=ua x;exact⟨_,k.gen e o⟩
 have a5:∀j∈addrs E.pre,j∈addrs N.led:=λj x=>by
  obtain⟨p,r,rfl⟩:=ua x;obtain⟨_,_,e,i,a9,_⟩:=V p r;rw[<-a9];exact t8 (t9 i)
 have ac:∀j∈eg E.UR,j∈eg N.gl:=λj x=>by
  obtain⟨p,r,rfl⟩:=ua x;obtain⟨_,_,i⟩:=af p r;exact t8 (t9 i)
 have a8:gq K s1.heap:=λt ob h=>by
  rcases g.step.chg t ob (k.base t ob h) (λq=>by
   obtain⟨e,i,f⟩:=ua (a5 t q);have:=k.nk e i;rw[f,h]at this;cases this)with q|⟨q,_⟩
  ·exact q
  ·rw[(a3 t q).1]at h;cases h
 refine⟨⟨λe i=> ?_, ?_,λe i=> ?_,λe i a2=> ?_,a8,λp r=> ?_, ?_,g.bare,ah,ai,λB a1=> ?_⟩,⟨?_,λe i=> ?_,λp r=> ?_⟩⟩
 ·rw[A]at i;rcases ud i with q|q
  ·exact(g.new e q).1
  ·rcases a7 e q with⟨m,s⟩|⟨n,D,m,s,H⟩
   ·have C:=k.cell e m;unfold aK at C|-;cases Q:e.fr with
    |true=>
     rw[Q]at C;obtain⟨a,f⟩:=C;rcases g.step.chg _ _ f s with G|⟨_,ao,G⟩
     ·exact⟨a,G⟩
     ·exact⟨ao,G⟩
    |false=>
     rw[Q]at C;rcases g.step.chg _ _ C s with G|⟨ap,_⟩
     ·exact G
     ·exact absurd ap (k.nf e m Q)
   ·have:=g.post n D;have f:e=⟨n.1.addr,n.2,n.1.fr⟩:=by
     obtain⟨t,aq,J⟩:=e;simp only at m s H;rw[m,s,H]
    rw[f];exact this
 ·rw[A];unfold addrs;rw[List.map_append];refine List.nodup_append.mpr ⟨g.VK, ?_,λt M j O=> ?_⟩
  ·have f:=hJ c (E.post y a) N.led;unfold addrs at f;rw[f];exact k.nd
  ·obtain⟨e,i,rfl⟩:=ua M;obtain⟨v,z,rfl⟩:=ua O;intro f;obtain⟨ob,h⟩:=an _ (Y v z);rw[<-f,(g.new e i).2]at h;cases h
 ·rw[A]at i;rcases ud i with q|q
  ·cases h:K e.addr with
   |none=>rfl
   |some ob=>have:=k.base _ _ h;rw[(g.new e q).2]at this;cases this
  ·obtain⟨v,z,f⟩:=ua (Y e q);rw[<-f];exact k.nk v z
 ·rw[A]at i;rcases ud i with q|q
  ·intro T;obtain⟨_,ob,h⟩:=a3 _ T;rw[(g.new e q).2]at h;cases h
  ·rcases a7 e q with⟨m,s⟩|⟨n,D,m,s,H⟩
   ·exact k.nf e m a2
   ·have T:n.1∈E.pre:=(List.of_mem_zip D).1;obtain⟨_,_,v,z,aa,ab,_⟩:=V n.1 T;rw[m,<-aa];exact k.nf v (t9 z) (by rw[ab,<-H];exact a2)
 ·rw[L]at r;rcases ud r with q|q
  ·exact(g.UW p q).1
  ·rcases ag p q with⟨m,s⟩|⟨n,D,m⟩
   ·exact g.step.gens _ _ (k.gen p m) s
   ·have:=g.UQ n D;rw[m];exact this
 ·rw[L];unfold eg;rw[List.map_append];refine List.nodup_append.mpr ⟨g.Vj, ?_,λt M j O=> ?_⟩
  ·have f:=ip W (E.UQ y a) N.gl;unfold eg at f;rw[f];exact k.U6
  ·obtain⟨e,i,rfl⟩:=ua M;obtain⟨v,z,rfl⟩:=ua O;intro f;obtain⟨ob,h⟩:=ae _ (a0 v z);rw[<-f,(g.UW e i).2]at h;cases h
 ·rw[aj]at a1;rcases ud a1 with q|q
  ·exact g.US B q
  ·exact g.step.UO (k.UO B q)
 ·exact⟨λj ob h ak=>g.step.chg j ob h (λq=>ak (a5 j q)),g.step.U7,g.step.os,λb n h al=>g.step.gens b n h (λq=>al (ac b q))⟩
 ·rw[A]at i;rcases ud i with q|q
  ·exact .inr (g.new e q).2
  ·exact .inl (Y e q)
 ·rw[L]at r;rcases ud r with q|q
  ·exact .inr (g.UW p q).2
  ·exact .inl (a0 p q)
end
end
section
noncomputable def aZ(a:Wy Env):Wy Addr:=a.filterMap (·.frame)
noncomputable def ba(e:Nat->WA gi)(d:Wy Env)(f:Heap):Prop:=∀b∈d,b.scope.kind≠ .module/\∃a c,b.frame=some a/\f.get? a=some c/\ew c=true/\e a=none
theorem bx{B:WK}(a:B.frames=F.frames):aS B=aS F:=by unfold aS;rw[a]
variable {a:Wy Env}
theorem aY(b:F.frames=some a):aS F=aZ a:=by unfold aS;rw[b];rfl
variable {c:Heap} {b:Nat->WA gi}
theorem ba.live(m:ba b a c):∀d∈aZ a,b d=none/\∃ob,c.get? d=some ob:=by intro d k;obtain⟨f,j,e⟩:=List.mem_filterMap.mp k;obtain⟨_,n,l,g,h,_,i⟩:=m f j;rw[g]at e;cases e;exact⟨i,l,h⟩
theorem fM(f:eB b F c):∀a∈aS F,b a=none/\∃ob,c.get? a=some ob:=by obtain⟨g,d,e⟩:=f;rw[aY d];exact ba.live e
section
variable {R0:Type} (P:WJ) (w:WG) (K:Nat->WA gi) (F:R0->St->Prop) (Fm:Wy Env)
structure Inv(o:St×WF)(st:St)(s:WF):Prop where
 rep:Rep P w K (aZ Fm) st s
 fr:ba K Fm s.heap
 UU:aX (aZ Fm) o.1 o.2 st s
structure ax{β:Type}(p:aJ (R0×St) β)(W:(β->WF->Prop)->WF->Prop):Prop where
 gr:Gr p
 sd:∀κ o st s R,dj κ->Al F (p κ) st->Inv P w K Fm o st s->(∀b st1 s1,Al F (κ b) st1->Inv P w K Fm o st1 s1->R b s1)->W R s
end
section
variable {R0:Type} {P:WJ} {w:WG} {K:Nat->WA gi} {F:R0->St->Prop} {Fm:Wy Env} {β γ:Type}
theorem ba.UU{s1:WF}(l:ba K Fm I.heap)(m:aX Z N I O s1):ba K Fm s1.heap:=λb d=>by
 obtain⟨f,a,n,e,i,g,c⟩:=l b d;obtain⟨k,j,h⟩:=m.step.U7 _ _ i;exact⟨f,a,k,e,j,h.nf g,c⟩
theorem Inv.next{b:St×WF}{s1:WF}(a:Inv P w K Fm b N I)(d:Rep P w K (aZ Fm) O s1)(c:aX (aZ Fm) N I O s1):Inv P w K Fm b O s1:=⟨d,a.fr.UU c,a.UU.trans c⟩
theorem Inv.same{b:St×WF}{d:Wy aF}{c:Wy (Nat×WI)}{y al':AL}{j k:SL}{W i:uh}{f:Wy yq}{e:Wy mQ}{a:Wy jz}{g h:Wy g8}{s:WF}(l:Inv P w K Fm b ⟨d,c,y,j,W,f,e,a,g⟩ s):Inv P w K Fm b ⟨d,c,al',k,i,f,e,a,h⟩ s:=
 l.next (l.rep.same rfl rfl rfl rfl) (aX.same s rfl rfl)
theorem ax.ret{c:β}:ax P w K F Fm (cR c) λR f=>R c f:=⟨λω d=>d c,λω ω ω ω ω ω a e b=>b _ _ _ a e⟩
variable {b:(β->WF->Prop)->WF->Prop}
theorem ax.stop:ax P w K F Fm cX b:=⟨λω ω ω ω d=>(nomatch d),λω ω a ω ω ω c=>(c a.al a.sl).none⟩
variable {c:β->aJ (R0×St) γ} {a:aJ (R0×St) β}
theorem ax.YI{V:β->(γ->WF->Prop)->WF->Prop}(h:ax P w K F Fm a b)(g:∀d,ax P w K F Fm (c d) (V d)):ax P w K F Fm (cB a c) λR=>b λd=>V d R:=
 ⟨λf e=>h.gr _ λd=>(g d).gr f e,λf i p o R e j m k=>h.sd _ i p o _ (λd=>(g d).gr f e) j m λd q s1 l n=>(g d).sd f i q s1 R e l n k⟩
theorem ax.mono{c:(β->WF->Prop)->WF->Prop}(e:ax P w K F Fm a b)(j:∀R d,b R d->c R d):ax P w K F Fm a c:=⟨e.gr,λm k l d R h f i g=>j R d (e.sd m k l d R h f i g)⟩
theorem ax.YP{V:(β->WF->Prop)->WF->Prop}(f:ax P w K F Fm a b)(k:∀d e R c,Inv P w K Fm d e c->b R c->V R c):ax P w K F Fm a V:=⟨f.gr,λl d e c R j h g i=>k d e R c g (f.sd l d e c R j h g i)⟩
theorem ax.opt{x:WA β}:ax P w K F Fm (bg x) λR d=>∃a,x=some a/\R a d:=
 ⟨λj h e l c=>(aM c).elim λa c=>h a _ _ c.2,λj k e d R ω b i g=>by
  obtain⟨a,f,b⟩:=Good.opt b;exact⟨a,f,g a e d b i⟩⟩
theorem ax.gate{c:Bool}(i:c=true->ax P w K F Fm a b):ax P w K F Fm (cG c a) λR f=>c=true/\b R f:=
 ⟨λg e j o k=>(i (aQ k).1).gr g e _ _ (aQ k).2,λg n j f R e d m l=>by
  obtain⟨h,d⟩:=Good.YR d;exact⟨h,(i h).sd g n j f R e d m l⟩⟩
theorem ax.Y9{c:g8}(g:ax P w K F Fm a b):ax P w K F Fm (cE c a) λR h=>c.ok/\b R h:=
 ⟨λf e d p o=>λn k=>g.gr f e _ _ o n (.tail _ k),λf m d h R e i l j=>⟨Al.YN (st:=⟨d.led,d.gl,d.al,d.sl,d.UT,d.use,d.UN,d.bl,c::d.lg⟩) i (g.gr f e) c (.head _),g.sd f m ⟨d.led,d.gl,d.al,d.sl,d.UT,d.use,d.UN,d.bl,c::d.lg⟩ h R e i l.same j⟩⟩
theorem ax.pop:ax P w K F Fm cJ λR d=>∃a,R a d:=
 ⟨λm h e o b=>(bj b).elim λa b=>b.elim λf b k i=>h a _ _ b.2 k i,λm n e d R ω c j g=>by
  obtain⟨a,f,_,c⟩:=Good.lst (l:=e.UT) c;exact⟨a,g a {e with UT:=f} d c j.same⟩⟩
theorem ax.YJ{a:WA β}{b:(γ->WF->Prop)->WF->Prop}(j:∀d,a=some d->ax P w K F Fm (c d) b):ax P w K F Fm (cB (bg a) c) b:=
 ⟨λi g h p e=>(aM e).elim λd e=>(j d e.1).gr i g h p e.2,λi n h o R g f m l=>by
  obtain⟨d,k,f⟩:=Good.opt f;exact(j d k).sd i n h o R g f m l⟩
theorem ax.YL{c:Bool}(d:c=true->ax P w K F Fm a b):ax P w K F Fm (cG c a) b:=(ax.gate d).mono λω ω d=>d.2
theorem ax.YM{c:Nat->aJ (R0×St) γ}{b:(γ->WF->Prop)->WF->Prop}(a:∀d,ax P w K F Fm (c d) b):ax P w K F Fm (cB cJ c) b:=(ax.pop.YI a).mono λω ω a=>a.elim λω a=>a
theorem ax.Zh{c:aJ (R0×St) β}(m:ax P w K F Fm a b)(o:ax P w K F Fm c b):ax P w K F Fm (cI d a c) b:=
 ⟨λg h e t j=>by
  revert j;unfold cI;cases XJ d e.UT with
  |some i=>exact λj c s=>m.gr g h _ _ j c s
  |none=>exact o.gr g h _ _,λg p e q R h f n l=>by
  have f:∀k r,Good F (match XJ d e.UT with
   |some i=>a g ⟨e.led,e.gl,k,r,i,e.use,e.UN,e.bl,e.lg⟩
   |none=>c g (e.w k r)):=f
  revert f;cases XJ d e.UT with
  |some i=>exact λf=>m.sd g p {e with UT:=i} q R h f n.same l
  |none=>exact λf=>o.sd g p e q R h f n l⟩
theorem ax.tok:ax P w K F Fm cA λR d=>R d.toks {d with toks:=d.toks+1}:=
 ⟨λp g b q c n m=>g _ _ _ c n m,λp f b d R ω h a l=>l d.toks ⟨b.led,b.gl,b.al,b.sl,b.UT,b.use,b.UN,b.bl,b.lg⟩ _ (λi o=>h (cons d.toks i) o) (a.next ⟨a.rep.cell,a.rep.nd,a.rep.nk,a.rep.nf,a.rep.base,a.rep.gen,a.rep.U6,a.rep.bare,a.rep.use,a.rep.UN,a.rep.UO⟩ ⟨⟨λj f c ω=>.inl c,λj f c=>⟨f,c,.refl _⟩,rfl,λg r c ω=>c⟩,λk e=>.inl (t8 e),λk e=>.inl (t8 e)⟩)⟩
theorem ax.new{ob:gi}{c:Bool}(d:ob.isFreed=false):ax P w K F Fm (cN ob c) λR b=>R b.heap.objs.size {b with heap:=b.heap.push ob}:=
 ⟨λq k a s l n m=>k _ _ _ l n m,λq r a b R ω f e j=>by
  obtain⟨o,h⟩:=kG (o:=ob) (b:=c) (st1:=⟨⟨b.heap.objs.size,ob,c⟩::a.led,a.gl,a.al,a.sl,a.UT,a.use,a.UN,a.bl,a.lg⟩) e.rep (λi d=>(e.fr.live i d).2) d rfl rfl rfl rfl
  exact j b.heap.objs.size ⟨⟨b.heap.objs.size,ob,c⟩::a.led,a.gl,a.al,a.sl,a.UT,a.use,a.UN,a.bl,a.lg⟩ _ (λg p=>f (cons b.heap.objs.size g) p) (e.next o h)⟩
theorem ax.gen{c:Code}:ax P w K F Fm (cF c) λR b=>R b.gens.size {b with gens:=b.gens.push (.fresh c)}:=
 ⟨λo i a q j l k=>i _ _ _ j l k,λo p a b R ω e d h=>by
  obtain⟨m,g⟩:=u9 (c:=c) (st1:=⟨a.led,(b.gens.size,.fresh c)::a.gl,a.al,a.sl,a.UT,a.use,a.UN,a.bl,a.lg⟩) d.rep rfl rfl rfl rfl;exact h b.gens.size ⟨a.led,(b.gens.size,.fresh c)::a.gl,a.al,a.sl,a.UT,a.use,a.UN,a.bl,a.lg⟩ _ (λf n=>e (cons b.gens.size f) n) (d.next m g)⟩
noncomputable def bo(a:β->WF->Prop)(c:Except Wz β)(d:WF):Prop:=match c with
 | .ok b=>a b d
 | .error _=>False
theorem ax.okF:∀a:Except Wz β,ax P w K F Fm (Ym a) λR=>bo R a
 | .ok _=>.ret
 | .error _=>.stop
theorem ax.YK{a:aJ (R0×St) (Except Wz β)}{b:(Except Wz β->WF->Prop)->WF->Prop}(c:ax P w K F Fm a b):ax P w K F Fm (cK a) λR=>b (bo R):=
 (c.YI (V:=λd R=>bo R d) ax.okF)
theorem hL(a:gi)(b:WD (WA Wz)):hQ (ea a b)=hQ a:=rfl
theorem mZ{b:gi}(a:oC b=false):hQ b=none:=by
 unfold oC at a;split at a
 ·cases a
 ·assumption
theorem wW{b:gi}{a:dh}(g:hQ b=some a):∃d e c,b=yp a d e c b.slots:=by obtain⟨d,e,c,f⟩:=wS g;exact⟨d,e,c,congrArg (λh=>ea h b.slots) f⟩
theorem bB(b:Rep P w K Z N I){c:aF}(a:cellAt N.led d=some c):aK I.heap c:=b.cell c (t9 a)
theorem ax.cC{d a:Nat}:ax P w K F Fm (cC d a) λR e=>∃h,e.heap.get? a=some h/\R h e:=
 ⟨λk f b v g=>by
  obtain⟨t,_,g⟩:=aM g;exact λs r=>f _ _ _ (aQ g).2 s (.tail _ r),λk h b e R f c j m=>by
  obtain⟨⟨ad,ob,o⟩,p,c⟩:=Good.opt (x:=cellAt b.led d) c;have q:=bB j.rep p;cases o with
  |true=>exact(c b.al b.sl).none
  |false=>
   have i:Al F (k ob) ⟨b.led,b.gl,b.al,b.sl,b.UT,b.use,b.UN,b.bl,.n ad a::b.lg⟩:=c;have l:ad=a:=i.YN (f _) _ (.head _);exact⟨ob,l▸q,m _ _ e i j.same⟩⟩
theorem ax.sl:ax P w K F Fm cS λR c=>∀b,R b c:=
 ⟨λm g a o h k i=>g _ _ _ h k i,λm n a c R ω d j f b=>f b ⟨a.led,a.gl,a.al,a.sl,a.UT,a.use,a.UN,a.bl,a.lg⟩ c (λe l=>d e (cons b l)) j.same⟩
theorem ax.ceB{c:WA aF->aJ (R0×St) β}(i:∀k,ax P w K F Fm (c k) λR a=>(∀h,k=some h->aK a.heap h)->b R a):ax P w K F Fm (cB (Yn d) c) b:=
 ⟨λg f e p q=>(i _).gr g f e p q,λg o e a R f l j n=>(i (cellAt e.led d)).sd g o e a R f l j n λω m=>bB j.rep m⟩
theorem ax.bnB{c:jz->aJ (R0×St) β}(j:∀B,ax P w K F Fm (c B) λR a=>dV a.heap B->b R a):ax P w K F Fm (cB (Yo d) c) b:=
 ⟨λi g e o h=>(aM h).elim λB h=>(j B).gr i g e o h.2,λi n e a R g f k m=>by
  obtain⟨B,l,f⟩:=Good.opt (x:=e.bl[d]?) f;exact(j B).sd i n e a R g f k m (k.rep.UO B (t9 l))⟩
theorem ax.rw{a:dh}:ax P w K F Fm (Yp a) λR e=>∀d,hQ d=some a->R d e:=
 ⟨λr k b s c n l=>k _ _ _ c n l,λr d b e R ω f m j ob h=>by
  obtain⟨p,q,i,e3⟩:=wW h;refine j ob ⟨b.led,b.gl,b.al,b.sl,b.UT,b.use,b.UN,b.bl,b.lg⟩ e (λg o=> ?_) m.same
  have c:=f (cons p (cons q (cons i g))) (cons ob.slots o);exact e3▸c⟩
noncomputable def ca(d:Nat)(c:gi->WF->Prop)(b:WF):Prop:=∃a,b.heap.get? d=some a/\c a b
theorem ax.Y6{a:Nat}:ax P w K F Fm (bg (K a)) (ca a):=ax.opt.YP λf h R g e ⟨b,c,d⟩=>⟨b,e.rep.base _ _ c,d⟩
theorem ax.Zf{a c:Nat}{b:gi}:ax P w K F Fm (cE (.n c a) (cR b)) λR d=>d.heap.get? c=some b->ca a R d:=(ax.Y9 ax.ret).mono λR d e f=>⟨b,(show c=a from e.1)▸f,e.2⟩
theorem ax.fam{a:Nat}:ax P w K F Fm (Xe a) (ca a):=
 .YM λi=>.bnB λB=>.YJ λd ω=>(ax.rw.YI λc=>ax.Zf).mono λR j e b=>by
  obtain⟨d,f,g⟩:=d;unfold dV at b;rw[f,g]at b;obtain⟨⟨h,c,e1,e2,e3⟩,_⟩:=b;cases e1;exact e c e3 e2
theorem ax.load{a:Nat}:ax P w K F Fm (cL K a) (ca a):=
 .YM λe=>match e with
  |0=>ax.Y6
  | .succ e=>.ceB λc=>match c with
   |none=>ax.fam.mono λR f b ω=>b
   |some ⟨ad,ob,true⟩=>(ax.sl.YI λc=>ax.Zf).mono λR f b d=>(d _ rfl).elim λc g=>b c g
   |some ⟨ad,ob,false⟩=>ax.Zf.mono λR f b d=>b (d _ rfl)
theorem ax.at{a:Nat}:ax P w K F Fm (Hb K a) (ca a):=
 .YM λb=>match b with
  |0=>ax.Y6
  | .succ b=>.cC
theorem ax.Za{a:Nat}{c:gi->aJ (R0×St) β}(d:∀e,ax P w K F Fm (c e) λR f=>f.heap.get? a=some e->b R f):ax P w K F Fm (cB (Hb K a) c) b:=(ax.at.YI d).mono λω ω d=>d.elim λω d=>d.2 d.1
theorem w4{b a:gi}(c:c9 b a=true):a.isFreed=false/\kF b a:=by
 unfold c9 at c;cases e:a.isFreed with
 |true=>rw[e]at c;cases c
 |false=>
  rw[e]at c;cases d:oC b with
  |true=>rw[d]at c;cases c
  |false=>
   rw[d]at c;exact⟨rfl,λg=>(by rw[g]at c;exact c),λh f=>(by rw[mZ d]at f;cases f)⟩
theorem ax.upd{a:Nat}{c:gi->gi}:ax P w K F Fm (cU a c) λR h=>∃k,h.heap.get? a=some k/\R () {h with heap:=h.heap.update a c}:=
 ⟨λz s d V f=>by
  obtain⟨g,p,_,f⟩:=bj f;cases g with
  |zero=>cases f
  |succ g=>
   obtain⟨⟨ad,k,m⟩,_,f⟩:=aM f;cases m<;>exact λY O=>s _ _ _ (aQ f).2 Y (.tail _ O),λz k d h R s e t J=>by
  obtain⟨g,p,_,e⟩:=Good.lst (l:=d.UT) e;cases g with
  |zero=>exact(e d.al d.sl).none
  |succ g=>
   obtain⟨⟨ad,ob,m⟩,A,e⟩:=Good.opt (x:=cellAt d.led g) e;have C:=bB t.rep A;have D:∀{i:gi},h.heap.get? ad=some i->c9 ob (c i)=true->kF i ob->(∀f:Heap,f.get? ad=some (c i)->aK f ⟨ad,c i,m⟩)->Al F (z ()) ⟨da d.led g (c i),d.gl,d.al,d.sl,p,d.use,d.UN,d.bl,.n ad a::d.lg⟩->∃k,h.heap.get? a=some k/\R () {h with heap:=h.heap.update a c}:=λo j N T e=>by
    have I:ad=a:=e.YN (s _) _ (.head _);subst I;obtain⟨L,M⟩:=w4 j;obtain⟨G,H⟩:=gm (f:=c) (st1:=⟨da d.led g (c _),d.gl,d.al,d.sl,p,d.use,d.UN,d.bl,.n ad ad::d.lg⟩) t.rep A o L T (N.trans M) rfl rfl rfl rfl;exact⟨_,o,J _ _ _ e (t.next G H)⟩
   cases m with
   |true=>
    obtain⟨y,o⟩:=C;obtain⟨j,e⟩:=Good.YR (b:=c9 ob (c (ea ob y))) (f:=λq v=>z () (St.w ⟨da d.led g (c (ea ob y)),d.gl,d.al,d.sl,p,d.use,d.UN,d.bl,.n ad a::d.lg⟩ q v)) λq v=>e q (cons y v)
    exact D o j ⟨id,λG Q=>Q⟩ (λf r=>⟨_,r⟩) e
   |false=>
    obtain⟨j,e⟩:=Good.YR (b:=c9 ob (c ob)) e;exact D C j (.refl _) (λf r=>r) e⟩
theorem vc{a b d c e:Wy g8}(h:∀f∈a++(b++(d++(c++e))),f.ok):(∀f∈a,f.ok)/\(∀f∈b,f.ok)/\(∀f∈d,f.ok)/\(∀f∈c,f.ok):=
 ⟨λf g=>h f (ue _ g),λf g=>h f (uc _ (ue _ g)),λf g=>h f (uc _ (uc _ (ue _ g))),λf g=>h f (uc _ (uc _ (uc _ (ue _ g))))⟩
theorem Gr.use{E:mw}{d W:uh}{e:Wy f8}{f:Wy yq}{b:Wy mQ}{a:Wy g8}{c:AL->SL->β}:Gr (R0:=R0) (gy E d W e f b a c):=λp h n o g j i=>by
 obtain⟨k,_,g⟩:=aM g;obtain⟨l,_,g⟩:=aM g;obtain⟨m,_,g⟩:=aM g;exact h _ _ _ g j (uc _ (uc _ (uc _ (uc _ (.tail _ i)))))
theorem jD{E:mw}{pos Ve:uh}{src:Wy f8}{us:Wy yq}{ss:Wy mQ}{more:Wy g8}{out:AL->SL->β}{a:β->St->WA (R0×St)}(C:dj a){b:St×WF}(h:Inv P w K Fm b N I)
 (e:Al F (gy E pos Ve src us ss more out a) N)(H:∀k∈us,∀f j i,ct P w K (k.spec f j i))(G:∀k∈ss,∀f j i,gb P w K (k.seg f j i)):
  (∀z∈more,z.ok)/\d7 K E (aZ Fm) I/\∀(R:β->WF->Prop),(∀m v s1,Al F (a m) v->Inv P w K Fm b v s1->R m s1)->∀c d s1,eh E (aZ Fm) c d I s1->R (out c d) s1:=by
 obtain⟨n,q,e⟩:=Good.opt (x:=collect pos E.pre N.led) e;obtain⟨o,r,e⟩:=Good.opt (x:=dR Ve E.UR N.gl) e;obtain⟨p,D,e⟩:=Good.opt (x:=fH N.led N.bl src E.UX) e;have l:∀c d,Al F (a (out c d)) ⟨E.new c d++ec pos (E.post c d) N.led,E.UW c d++dU Ve (E.UQ c d) N.gl,N.al,N.sl,N.UT,us,ss,E.US c d++N.bl,more++(n++(o++(p++(.st c::N.lg))))⟩:=λc d y O=>by
  have g:=e (mR c y) (mR d O);dsimp only[St.w]at g;rw[ln,lr,ln,lr]at g;exact g
 obtain⟨L,s,t,J⟩:=vc ((l N.al N.sl).YN (C _));refine⟨L,yu h.rep q r D s t J λω g=>g,λR A c d s1 x=> ?_⟩
 obtain⟨M,f⟩:=vb (st1:=⟨E.new c d++ec pos (E.post c d) N.led,E.UW c d++dU Ve (E.UQ c d) N.gl,N.al,N.sl,N.UT,us,ss,E.US c d++N.bl,more++(n++(o++(p++(.st c::N.lg))))⟩) h.rep q r s t x h.fr.live rfl rfl H G rfl;exact A _ _ s1 (l c d) (h.next M f)
theorem qP{a c:WA Nat}{b:Wy g8}(g:yt a c=some b)(i:∀e∈b,e.ok)(h:a=some d):c=some d:=by
 subst h;cases c with
 |none=>cases g
 |some f=>
  cases g;have e:f=d:=i (.n f d) (.head _);rw[e]
theorem ax.YO{d:WK}(o:d.frames=some Fm){a:Nat}{e:Cx}{c:Code}(k:MV d a e):ax P w K F Fm (f9 a e c) λR n=>runC (model P w) d c R n:=by
 unfold Mine.f9;have e0:=aY o;cases O:e.hd with
 |some z=>exact .stop
 |none=>exact⟨λA m f X j=>by
   obtain⟨g,y,_,j⟩:=bj j;obtain⟨v,_,j⟩:=aM (aQ j).2;exact Gr.use A m _ _ j,λA W f n R m h i J=>by
   obtain⟨g,y,q,h⟩:=Good.lst (l:=f.use) h;obtain⟨M,h⟩:=Good.YR (b:=Nat.ble (g.at c f.led f.lg).dep a) h;obtain⟨v,Q,h⟩:=Good.opt (x:=yt (g.at c f.led f.lg).top e.top) h;obtain⟨s,t,r⟩:=jD (E:=(g.at c f.led f.lg).UM) (pos:=g.pos) (Ve:=g.Ve) (src:=g.src) (us:=y) (ss:=f.UN) (more:= .c c (g.at c f.led f.lg).code::v) (out:=(g.at c f.led f.lg).res) m i h (λz T=>i.rep.use z (by rw[q];exact .tail _ T)) i.rep.UN
   have I:c=(g.at c f.led f.lg).code:=s _ (.head _);have p:(g.at c f.led f.lg).dep<=a:=Nat.le_of_ble_eq_true M;have V:ct P w K (g.at c f.led f.lg):=i.rep.use g (by rw[q];exact .head _) c _ _;rw[I];rw[<-e0]at t r;exact V d _ n ⟨k.hd.trans O,λC L=>k.top C (qP Q (λH N=>s H (.tail _ N)) L),Nat.le_trans (Nat.add_le_add_right (Nat.add_le_add_left (Nat.mul_le_mul_left 2 p) _) _) k.dep,Nat.le_trans (Nat.add_le_add_right (Nat.add_le_add_left (Nat.mul_le_mul_left 12 p) _) _) k.U9⟩ ⟨Fm,o,i.fr⟩ i.rep.base i.rep.bare t λG Y s1 D=>r R J G Y s1 D⟩
theorem ax.told{d:WK}(f:d.frames=some Fm){a:Nat}{e:Cx}{c:Code}(i:MV d a e):ax P w K F Fm (qK a e c) λR b=>codeAny (model P w) d c R b:=by
 unfold Mine.qK;cases h:jA c with
 |true=>exact .stop
 |false=>exact(ax.YO f i).mono λR b g=>by rw[<-oF h];exact g
@[reducible] noncomputable def WT (P:WJ) (w:WG) (d:WK) {c:Type} (h:Sem c) (b:Except Wz c->WF->Prop) (g:WF):Prop:=wpAny (model P w) d h (λe a=>b (.ok e) a) (λf a=>b (.error f) a) g
variable {e:Cx} {d:WK}
theorem oi.Y3{a:Nat}(b:oi d (a+1) e):MV d a e:=⟨b.hd,b.top,by have:=b.dep;omega,by have:=b.U9;omega⟩
theorem MV.toT{a:Nat}(b:MV d a e):oi d a e:=⟨b.hd,b.top,by have:=b.dep;lia,by have:=b.U9;lia⟩
theorem ax.Y1{d:WK}(f:d.frames=some Fm){a:Nat}{e:Cx}{b:Wy Stmt}{X:Env}(g:oi d a e):ax P w K F Fm (qL a e b X) (WT P w d (execs b X)):=by
 cases a with
 |zero=>exact .stop
 |succ a=>exact ax.YO (c:= .block b X) f g.Y3
variable (P w K F)
noncomputable abbrev aN(e:gj)(f:Nat):Prop:=∀{g:Type} (c:Nat) (b:Cx) (d:Sem g) (a:WK) (Fm:Wy Env),a.frames=some Fm->oi a c b->ax P w K F Fm ((iter K e ⟨P,w.params⟩ f).t c b d) (WT P w a d)
noncomputable abbrev pD(e:gj)(f:Nat):Prop:=∀(d:Nat) (c:Cx) (b:Code) (a:WK) (Fm:Wy Env),a.frames=some Fm->MV a d c->ax P w K F Fm ((iter K e ⟨P,w.params⟩ f).c d c b) (codeAny (model P w) a b)
noncomputable abbrev BodyOk(g:gj)(h:Nat):Prop:=∀(d:Nat) (c:Cx) (f:Wy Stmt) (e:Env) (a:WK) (Fm:Wy Env),a.frames=some Fm->oi a d c->ax P w K F Fm ((iter K g ⟨P,w.params⟩ h).b d c f e) (WT P w a (execs f e))
variable {P w K F}
theorem bf{c:Bool}(a:bL c=true):c=false:=by cases c;rfl;cases a
theorem qS{c:Type}{a:Addr}{e:WA gi->Sem c}{b:gi}{f:c->WF->Prop}{E:Wz->WF->Prop}(j:I.heap.get? a=some b)(i:wpAny (model P w) d (e (some b)) f E I):wpAny (model P w) d (.loadIfAlive a e) f E I:=λh g k=>by
 have:=i h g k;refine(?_:Sem.wp (model P w) h (e (I.heap.get? a)) _ _ g I);rw[j];exact this
theorem wX{a:gj}{d:Nat}(G:aN P w K F a d)(H:pD P w K F a d):aN P w K F a (d+1):=by
 intro L m l o i Fm q k;refine(?_:ax P w K F Fm (stepT K ⟨P,w.params⟩ (iter K a ⟨P,w.params⟩ d) m l o) (WT P w i o));have f:=λo:Sem L=>G m l o i Fm q k
 cases o with
 |pure h=>exact ax.ret.mono λR e b=>x_pure b
 |raise M=>exact ax.ret.mono λR e b=>x_raise b
 |rule _ c=>exact(f _).mono λR e b=>x_rule b
 |«at» _ c=>exact(f _).mono λR e b=>x_at b
 |point _ c=>exact(f _).mono λR e b=>x_point b
 |ask c=>exact(f _).mono λR e b=>x_ask b
 |fresh c=>exact(ax.tok.YI λd=>f (c d)).mono λR e b=>x_fresh b
 |newGen p c=>exact(ax.gen.YI λA=>f (c A)).mono λR e b=>ci (m:=newGen p) (f:=c) (wpAny_newGen b)
 |handled I c=>
  cases I with
  |true=>exact .stop
  |false=>exact(f _).mono λR e b=>x_handled (by rw[k.hd];exact b)
 |load h y c=>exact(ax.load.YI λg=>f (c g)).mono λR e ⟨g,n,b⟩=>x_load n b
 |loadIfAlive h c=>exact(ax.at.YI λg=>f (c (some g))).mono λR e ⟨g,n,b⟩=>qS n b
 |update h y z c=>exact(ax.upd.YI λJ=>f (c J)).mono λR e ⟨g,n,b⟩=>ci (m:=updatePart h y z) (f:=c) (wpAny_updatePart n b)
 |alloc g c=>
  refine .YL λC=>.YM λr=> ?_
  have x:∀t,ax P w K F Fm (cB (cN g t) λh=>(iter K a ⟨P,w.params⟩ d).t m l (c h)) (WT P w i (.alloc g c)):=λt=>((ax.new (bf C)).YI λh=>f (c h)).mono λR e b=>ci (m:=PySem.alloc g) (f:=c) (wpAny_alloc b)
  match r with
  |0=>exact x false
  |1=>exact x true
  |_+2=>exact .stop
 |call p j O Q c=>
  cases m with
  |zero=>exact .stop
  |succ m=>
   have N:(i.mark j).frames=i.frames:=rfl;refine .YL λD=>.YM λr=> ?_
   have v:j≠some byPass:=by rintro rfl;simp[okMark,byPass]at D
   match r with
   |0=>exact((H m ⟨j.or l.hd,l.top⟩ p (i.mark j) Fm q ⟨by refine(?_:j.or i.handled=j.or l.hd);rw[k.hd],k.top,k.Y3.dep,k.Y3.U9⟩).YI λs=>f (c s)).mono λR e b=>x_call b v
   |1=>
    cases j with
    |some T=>exact .stop
    |none=>exact((ax.told q k.Y3).YI λs=>f (c s)).mono λR e b=>x_call b v
   |_+2=>exact .stop
 |unsupported|finish|register|choose|os|genState|resume|«yield»|stack|fork|thread|await=>exact .stop
end
end
variable {H:ug} {X:Env}
section
section
variable {P:WJ} {w:WG} {K:Nat->WA gi} {Fm:Wy Env}
variable {a:gi}
theorem Cm(b:ew a=true):∀c,a.data≠ .fields c:=λc d=>by unfold ew at b;rw[d]at b;cases b
theorem s9{a:Nat}{b:Wz->WF->Prop}{E:Wz->WF->Prop}(z:eB K F I.heap)(y:X.frame=some a)(q:a∈aS F)
 (n:∀x,Heap.SlotsOnly (aS F) I.heap x->b (.ref a) {I with heap:=x}):wpAny (model P w) F (PySem.frameOf X) b E I:=by
 obtain⟨m,r,H⟩:=z;have A:a∈m.filterMap (·.frame):=by unfold aS at q;rw[r]at q;exact q
 have O:∀c:Wy Env,(∀e∈c,e∈m)->a∈c.filterMap (·.frame)->∃e i,c.dropWhile (λV=>V.frame !=X.frame)=e::i/\e.frame=some a/\∀d∈e::i,d∈c:=by
  intro c;induction c with
  |nil=>intro _ h;simp at h
  |cons g c t=>
   intro l h
   by_cases k:g.frame=some a
   ·refine⟨g,c, ?_,k,λd f=>f⟩
    rw[List.dropWhile_cons_of_neg];rw[k,y];simp
   ·have L:a∈c.filterMap (·.frame):=by
     cases s:g.frame with
     |none=>rw[List.filterMap_cons_none s]at h;exact h
     |some v=>
      rw[List.filterMap_cons_some s]at h;rcases t6 h with e|e
      ·subst e;exact absurd s k
      ·exact e
    obtain⟨e,i,o,p,j⟩:=t (λe D=>l e (.tail _ D)) L
    refine⟨e,i, ?_,p,λd f=>.tail _ (j d f)⟩
    rw[List.dropWhile_cons_of_pos]
    ·exact o
    ·rw[y];simp only[bne_iff_ne];exact k
 obtain⟨e,i,o,p,j⟩:=O m (λω n=>n) A
 have G:∀c:Wy Env,(∀d∈c,d∈m)->I.heap.FunFrames {} c:=by
  intro c;induction c with
  |nil=>intro _;trivial
  |cons g c t=>
   intro l;obtain⟨J,v,Q,T,Y,R,Z⟩:=H g (l g (.head _));exact⟨J,⟨v,Q,T,rfl,Y,Cm R⟩,t λd f=>l d (.tail _ f)⟩
 unfold PySem.frameOf;refine ci (wpAny_frameEnvs r ?_);rw[o];unfold frameObject;refine ci (ci (wpAny_readyFrames_fun (G _ j) λN M=>cj ?_))
 rw[p];refine cj (n N (M.mono λW C=> ?_))
 unfold aS;rw[r];obtain⟨d,f,e⟩:=List.mem_filterMap.mp C;exact List.mem_filterMap.mpr ⟨d,j d f,e⟩
theorem wY{a:Heap}(b:Rep P w K Z N I)(v:∀n∈Z,K n=none/\∃ob,I.heap.get? n=some ob)(d:Heap.SlotsOnly Z I.heap a):
  Rep P w K Z N {I with heap:=a}/\aX Z N I N {I with heap:=a}:=by
 refine⟨⟨λk o=> ?_,b.nd,b.nk,b.nf,λe j m=> ?_,b.gen,b.U6,b.bare,b.use,b.UN,λB t=>eM.imp (λL C ⟨e,j,c,r,s⟩=>by
  obtain⟨f,e3⟩:=d.2.2 e j r;exact⟨e,_,c,e3,(hL j f).trans s⟩) (b.UO B t)⟩,⟨⟨λg ob i ω=> ?_,λg ob i=> ?_,rfl,λH G q ω=>q⟩,λG z=>.inl (t8 z),λJ x=>.inl (t8 x)⟩⟩
 ·have h:=b.cell k o;unfold aK at h|-;cases l:k.fr with
  |true=>
   rw[l]at h;obtain⟨f,c⟩:=h;obtain⟨D,e2⟩:=d.2.2 _ _ c;exact⟨D,e2⟩
  |false=>
   rw[l]at h;exact(d.2.1 _ (b.nf k o l)).trans h
 ·refine(d.2.1 e λA=> ?_).trans (b.base e j m)
  rw[(v e A).1]at m;cases m
 ·by_cases p:g∈Z
  ·obtain⟨f,c⟩:=d.2.2 g ob i;exact .inr ⟨p,f,c⟩
  ·exact .inl ((d.2.1 g p).trans i)
 ·obtain⟨f,c⟩:=d.2.2 g ob i;exact⟨_,c,⟨id,λC y=>(hL ob f).trans y⟩⟩
theorem qR(a:ui):restOf (a.map some).toArray=a:=by
 unfold restOf;rw[List.map_map];induction a with
 |nil=>rfl
 |cons b a c=>rw[List.map_cons];exact congrArg (b:: ·) c
theorem wZ(d:a.data= .fields H)(b:Nat)(c:Wz):(hR b c a).data= .fields (H.setIfInBounds b c):=Obj.data_mapFields d _
theorem oH(d:a.data= .fields H)(b:Nat)(c:Wz):(hR b c a).isFreed=false:=Obj.isFreed_of_fields (wZ d b c)
theorem ta(b:a.data= .fields H):hQ a=none:=by unfold hQ;rw[b];cases a.dict<;>rfl
theorem eS{b:gi}(c:a.data= .fields H):kF a b:=⟨λe=>(by rw[show ew a=false by unfold ew;rw[c]]at e;cases e),λf d=>(by rw[ta c]at d;cases d)⟩
end
end
variable {a:Nat} {v:Wz}
section
section
variable {R0:Type} {P:WJ} {w:WG} {K:Nat->WA gi} {F:R0->St->Prop} {Fm:Wy Env} {β:Type}
noncomputable def bM(_:Wz)(_:WF):Prop:=False
variable {c:Type}
theorem b8{a:Model}{A:WK}{b:Sem c}{d:c->WF->Prop}{E:Wz->WF->Prop}{s:WF}(f:wpAny a A b d bM s):wpAny a A b d E s:=wpAny_mono f (λω ω e=>e) λω ω e=>e.elim
theorem ax.Zd{c:Nat}{b:gi->aJ (R0×St) β}{T:(β->WF->Prop)->WF->Prop}(a:∀o,ax P w K F Fm (b o) λR s=>s.heap.get? d=some o->T R s):ax P w K F Fm (cB (Mine.cC c d) b) T:=(ax.cC.YI a).mono λω ω a=>a.elim λω a=>a.2 a.1
theorem ax.Zb{o:gi}{b:Wz->aJ (R0×St) β}{T:(β->WF->Prop)->WF->Prop}(d:∀vs c,o.data= .fields vs->vs[a]?=some c->ax P w K F Fm (b c) T):ax P w K F Fm (cB (Xj o a) b) T:= .YJ λvs ω=>.YJ λc e=>d vs.1 c vs.2 e
theorem ax.cW{c d a:Nat}{v:Wz}:ax P w K F Fm (cW c d a v) λR s=>∃o vs,s.heap.get? d=some o/\o.data= .fields vs/\a<vs.size/\R () {s with heap:=s.heap.update d (hR a v)}:=
 ⟨λq i b G h=>by
  obtain⟨l,_,h⟩:=aM h;obtain⟨vs,_,h⟩:=aM (aQ h).2;obtain⟨D,_,h⟩:=aM h;exact λA y=>i _ _ _ h A (.tail _ y),λq o b s R i g j t=>by
  obtain⟨⟨ad,ob,x⟩,m,g⟩:=Good.opt (x:=cellAt b.led c) g;have p:=bB j.rep m;cases x with
  |true=>exact(g b.al b.sl).none
  |false=>
   obtain⟨vs,_,g⟩:=Good.opt (x:=G0 ob.data) g;obtain⟨D,z,g⟩:=Good.opt (x:=vs.1[a]?) g;have k:Al F (q ()) ⟨da b.led c (hR a v ob),b.gl,b.al,b.sl,b.UT,b.use,b.UN,b.bl,.n ad d::b.lg⟩:=g;have r:ad=d:=k.YN (i _) _ (.head _);subst r;obtain⟨C,l⟩:=gm (f:=hR a v) (o':=hR a v ob) (st1:=⟨da b.led c (hR a v ob),b.gl,b.al,b.sl,b.UT,b.use,b.UN,b.bl,.n ad ad::b.lg⟩) j.rep m p (oH vs.2 a v) (λh e=>e) (eS vs.2) rfl rfl rfl rfl
   exact⟨ob,vs.1,p,vs.2,(Array.getElem?_eq_some_iff.mp z).1,t _ _ _ k (j.next C l)⟩⟩
theorem ax.tb{L:Nat}:ax P w K F Fm (Yq v L) λR s=>∀c e,Heap.SlotsOnly (aZ Fm) s.heap c->R c.objs.size {s with heap:=c.push (yr v L (restOf e))}:=
 ⟨λj i a G v z x=>i _ _ _ v z x,λj o a s R i k f r c e y=>by
  have l:∀d h,Al F (j d) ⟨⟨d,yr v L (restOf h),false⟩::a.led,a.gl,a.al,a.sl,a.UT,a.use,a.UN,a.bl,a.lg⟩:=λd h m D=>k (cons d m) (cons h D)
  obtain⟨A,n⟩:=wY f.rep f.fr.live y;have g:=f.next A n
  obtain⟨C,p⟩:=kG (st1:=⟨⟨c.objs.size,yr v L (restOf e),false⟩::a.led,a.gl,a.al,a.sl,a.UT,a.use,a.UN,a.bl,a.lg⟩) g.rep (λq t=>(g.fr.live q t).2) (o:=yr v L (restOf e)) (b:=false) rfl rfl rfl rfl rfl
  exact r _ _ _ (l _ _) (g.next C p)⟩
structure bY(Fm:Wy Env)(L:Nat)(env:Env):Prop where
 Zc:env.frame=some L
 mem:L∈aZ Fm
noncomputable def Xr(env:Env)(L e:Nat)(a:Wz)(b:Bool):Sem Unit:=do setField (.ref e) 1 (<-EntryCells.newEntry a (<-PySem.frameOf env) .none (rawInt L) .none (<-entryPlaceOf L b))
noncomputable def M4(a:Model)(A:WK)(env:Env)(L e:Nat)(b:Wz)(R:Unit->WF->Prop)(s:WF):Prop:=∀c,wpAny a A (Xr env L e b c) R bM s
theorem ax.YV{A:WK}(d:A.frames=some Fm){env:Env}{L e c:Nat}{v:Wz}:ax P w K F Fm (qu L e c v) λR s=>bY Fm L env->M4 (model P w) A env L e v R s:=
 (ax.tb.YI λa=>ax.cW).YP λo p R s m b a n=>by
  have e0:=aY d;unfold Xr;refine ci (s9 (K:=K) ⟨Fm,d,m.fr⟩ a.Zc (by rw[e0];exact a.mem) λl f=> ?_)
  rw[e0]at f;refine ci (wpAny_entryPlaceOf λpl j=> ?_)
  unfold EntryCells.newEntry newFields;refine ci (wpAny_newObj_type ?_ (j.sizeOk5 _ _ _ _ _));have k:(⟨.type "traceback",none,.fields ([v,.ref L,.none,rawInt L,.none]++(if pl.isEmpty then List.replicate 6 Value.none else pl)).toArray,#[]⟩:gi)=yr v L (restOf ((if pl.isEmpty then List.replicate 6 Value.none else pl).map some).toArray):=by
   rw[qR];rfl
  rw[k];obtain⟨ob,vs,i,g,h,b⟩:=b l _ f;exact wpAny_setField i g h b
section
variable {A:WK} {env:Env} {L e T:Nat} {s:WF} {o o2 o3:gi} {vs vs2 vs3:ug} {R:Unit->WF->Prop}
theorem Xs(c:env.frame=some L)(d:s.heap.get? e=some o)(b:o.data= .fields vs)(a:vs[1]?=some .none)(f:M4 (model P w) A env L e .none R s):wpAny (model P w) A (noteFrame (.ref e) env) R bM s:=by unfold noteFrame;rw[c];refine ci (wpAny_field d b a ?_);rw[if_neg (by decide)];exact f _
theorem Xt(f:env.frame=some L)(g:s.heap.get? e=some o)(c:o.data= .fields vs)(a:vs[1]?=some (.ref T))(h:s.heap.get? T=some o2)(d:o2.data= .fields vs2)(b:vs2[3]?=some (rawInt L))(i:R () s):wpAny (model P w) A (noteFrame (.ref e) env) R bM s:=by unfold noteFrame;rw[f];refine ci (wpAny_field g c a ?_);rw[if_pos (show(Value.ref T !=Value.none)=true from rfl)];refine ci (wpAny_field h d b ?_);rw[if_pos (by first|exact beq_self_eq_true _|simp)];exact cj i
theorem Xu(h:env.frame=some L)(j:s.heap.get? e=some o)(d:o.data= .fields vs)(b:vs[1]?=some (.ref T))(k:s.heap.get? T=some o2)(f:o2.data= .fields vs2)(c:vs2[3]?=some .none)(l:s.heap.get? T=some o3)(g:o3.data= .fields vs3)(i:3<vs3.size)
 (m:M4 (model P w) A env L e (.ref T) R {s with heap:=s.heap.update T (hR 3 .none)}):wpAny (model P w) A (noteFrame (.ref e) env) R bM s:=by
 unfold noteFrame;rw[h];refine ci (wpAny_field j d b ?_);rw[if_pos (show(Value.ref T !=Value.none)=true from rfl)];refine ci (wpAny_field k f c ?_);rw[if_neg (λa=>by cases a)]
 exact ci (wpAny_setField l g i (m _))
end
theorem ax.Y2{A:WK}(l:A.frames=some Fm){env:Env}{L e c T a:Nat}{o o2:gi}{vs vs2:ug}{v:Wz}(j:o.data= .fields vs)(i:vs[1]?=some (.ref T))(k:o2.data= .fields vs2)(d:vs2[3]?=some v):
  ax P w K F Fm (Cp L e c T a v) λR s=>s.heap.get? T=some o2->s.heap.get? e=some o->bY Fm L env->wpAny (model P w) A (noteFrame (.ref e) env) R bM s:=by
 unfold Mine.Cp;cases Xk v with
 |some r=>
  have d:=r.2▸d;exact(ax.cW.YI λω=>ax.YV l).mono λR s ⟨o3,vs3,p,m,n,q⟩ g f b=>Xu b.Zc f j i g k d p m n (q b)
 |none=>exact(ax.Y9 ax.ret).mono λR s h g f b=>Xt b.Zc f j i g k (d.trans (congrArg some h.1)) h.2
theorem ax.note{A:WK}(c:A.frames=some Fm){L:Nat}{v:Wz}{env:Env}:ax P w K F Fm (fg L v) λR s=>bY Fm L env->wpAny (model P w) A (noteFrame v env) R bM s:=
 .YJ λe ω=>by
  obtain⟨e,i⟩:=e;subst i;exact .YM λm=>.Zd λo=>.Zb λvs l f d=>.YJ λa ω=>by
   obtain⟨a,j⟩:=a;subst j;cases a with
   |none=>exact(ax.YV c).mono λR s v k b=>Xs b.Zc k f d (v b)
   |some T=>exact .YM λn=>.Zd λo2=>.Zb λvs2 p h g=>ax.Y2 c f d h g
theorem aL{A:WK}{b:Sem c}{R:c->WF->Prop}{s:WF}(a:WT P w A b (bo R) s):wpAny (model P w) A b R bM s:=a
noncomputable def bz(a:Model)(A:WK)(Fm:Wy Env)(L:Nat)(env:Env)(b:Wz)(R:Unit->WF->Prop)(s:WF):Prop:=bY Fm L env->wpAny a A (noteFrame b env) (λω c=>wpAny a A (setFlight b none) R bM c) bM s
theorem bz.leaving{a:Model}{A:WK}{L:Nat}{env:Env}{v:Wz}{R:Unit->WF->Prop}{E:Wz->WF->Prop}{s:WF}(b:bY Fm L env)(c:bz a A Fm L env v R s):wpAny a A (leaving env v) R E s:=ci (b8 (wpAny_mono (c b) (λω ω v=>b8 v) λω ω v=>v))
theorem ax.leave{d:Nat}(e:aN P w K F .own d){c:Nat}{a:Cx}{L:Nat}{v:Wz}{env:Env}{A:WK}(b:A.frames=some Fm)(f:oi A c a):
  ax P w K F Fm (hS .own (iter K .own ⟨P,w.params⟩ d) c a L v) (bz (model P w) A Fm L env v):=
 ((ax.note b).YI λω=>(e c a (setFlight v none) A Fm b f).YK)
theorem ax.top{A:WK}(d:A.frames=some Fm){c:Nat}{a:Cx}{env:Env}(g:oi A c a):ax P w K F Fm (cT a env) λR s=>∃L,bY Fm L env/\R L s:=
 .YJ λL e=>.YJ λh f=>(ax.Y9 ax.ret).mono λR s b=>⟨L,⟨f.trans (congrArg some (Eq.symm b.1)),aY d▸g.top L e⟩,b.2⟩
theorem ax.YY{A:WK}(e:A.frames=some Fm){c:Nat}{a:Cx}{env:Env}(f:oi A c a){b:Nat->aJ (R0×St) β}{T:(β->WF->Prop)->WF->Prop}(d:∀L,ax P w K F Fm (b L) λR s=>bY Fm L env->T R s):ax P w K F Fm (cB (cT a env) b) T:=((ax.top e f).YI d).mono λω ω d=>d.elim λω d=>d.2 d.1
end
end
variable {f:Nat}
section
section
variable {R0:Type} {P:WJ} {w:WG} {K:Nat->WA gi} {F:R0->St->Prop} {Fm:Wy Env}
variable {d:Stmt} {a:WK} {b:Model}
theorem wpAny_execs_cons{e:Wy Stmt}{c:Flow->WF->Prop}{E:Wz->WF->Prop}
 (i:wpAny b a (exec d X) (λf g=>match f with| .next=>wpAny b a (execs e X) c E g|f=>c f g) E I):wpAny b a (execs (d::e) X) c E I:=by
 rw[arm_execs_cons];refine ci (wpAny_mono i (λf g h=> ?_) λω ω j=>j)
 cases f<;>first|exact h|exact cj h
theorem mT(b:Stmt)(a:Env):execs [b] a=exec b a:=by
 rw[arm_execs_cons];refine(congrArg (λd=>exec b a>>=d) (funext λc=> ?_)).trans (bind_pure _)
 cases c<;>rfl
theorem jU{c:Flow->WF->Prop}{E:Wz->WF->Prop}
 (e:wpAny b a (execs [d] X) c E I):wpAny b a (exec d X) c E I:=mT d X▸e
noncomputable def X8(f:Model)(e:WK)(j:Wy Stmt)(h:Env)(b:Except Wz Flow)(a:Except Wz Flow->WF->Prop)(d:WF):Prop:=match b with
 | .ok .next=>wpAny f e (execs j h) (λi c=>a (.ok i) c) (λg c=>a (.error g) c) d
 |b=>a b d
theorem ax.go(i:BodyOk P w K F .own c){d:Nat}{b:Cx}{e:Wy Stmt}(h:a.frames=some Fm)(ok:oi a d b)(f:Except Wz Flow):ax P w K F Fm (Hl (iter K .own ⟨P,w.params⟩ c) d b e X f) (X8 (model P w) a e X f):=by
 cases f with
 |error j=>exact .ret
 |ok g=>
  cases g with
  |next=>exact i d b e X a Fm h ok
  |_=>exact .ret
variable {c:Except Wz Flow->WF->Prop}
theorem cb{e:Wy Stmt}
 (j:wpAny b a (exec d X) (λg f=>X8 b a e X (.ok g) c f) (λh f=>X8 b a e X (.error h) c f) I):wpAny b a (execs (d::e) X) (λg f=>c (.ok g) f) (λh f=>c (.error h) f) I:=
 wpAny_execs_cons (wpAny_mono j (λg ω i=>by cases g<;>exact i) λω ω i=>i)
noncomputable def Ct(c:Model)(b:WK)(Fm:Wy Env)(g:Nat)(e:Env)(j:Wy ExceptHandler)(f:Wz)(d:Except Wz Flow->WF->Prop)(k:WF):Prop:=bz c b Fm g e f (λω a=>wpAny c b (handleBy f e j) (λi a=>d (.ok i) a) (λh a=>d (.error h) a) a) k
variable {e:Wy ExceptHandler}
theorem ax.hand{c:Nat}(h:aN P w K F .own c){d:Nat}{b:Cx}(g:a.frames=some Fm)(i:oi a d b):
  ax P w K F Fm (Cq .own (iter K .own ⟨P,w.params⟩ c) d b f X e v) (Ct (model P w) a Fm f X e v):=(ax.leave h g i).YI λω=>h d b (handleBy v X e) a Fm g i
noncomputable def Xv(f:Model)(e:WK)(Fm:Wy Env)(h:Nat)(g:Env)(k:Wy Stmt)(j:Wy ExceptHandler)(l:Except Wz Flow)(a:Except Wz Flow->WF->Prop)(c:WF):Prop:=match l with
 | .ok .next=>wpAny f e (execs k g) (λb d=>a (.ok b) d) (λi d=>a (.error i) d) c
 | .ok b=>a (.ok b) c
 | .error m=>Ct f e Fm h g j m a c
theorem ax.Zi{c:Nat}(k:aN P w K F .own c)(l:BodyOk P w K F .own c){d:Nat}{b:Cx}{f:Nat}{g:Wy Stmt}{e:Wy ExceptHandler}{X:Env}{a:WK}(h:a.frames=some Fm)(i:oi a d b):
  ∀j,ax P w K F Fm (Xm .own (iter K .own ⟨P,w.params⟩ c) d b f X g e j) (Mine.Xv (model P w) a Fm f X g e j)
 | .ok .next=>l d b g X a Fm h i
 | .ok .brk=>.ret
 | .ok .cont=>.ret
 | .ok (.ret _)=>.ret
 | .error _=>.hand k h i
theorem Xv.wp{h g:Wy Stmt}{d:ExceptHandler}(n:bY Fm f X)
 (o:wpAny b a (execs h X) (λj i=>Mine.Xv b a Fm f X g (d::e) (.ok j) c i) (λk i=>Mine.Xv b a Fm f X g (d::e) (.error k) c i) I):wpAny b a (tryStmt false (execs h X) (d::e) (execs g X) [] X) (λj i=>c (.ok j) i) (λk i=>c (.error k) i) I:=
 wpAny_tryStmt_except (wpAny_mono o (λj ω l=>by cases j<;>exact l) λω ω l=>b8 (wpAny_mono (l n) (λω ω m=>b8 m) λω ω m=>m))
theorem w0{c:Nat}(j:aN P w K F .own c)(d:BodyOk P w K F .own c):BodyOk P w K F .own (c+1):=by
 intro h g k i f Fm a b;refine .YM λp=> ?_
 match p with
 |0=>exact j h g (execs k i) f Fm a b
 |1=>
  cases k with
  |nil=>exact .stop
  |cons r v=>exact((j h g (execs [r] i) f Fm a b).YI (ax.go d a b)).mono λR q o=>cb (jU o)
 |2=>
  refine .YJ λe ω=> ?_
  obtain⟨e,n⟩:=e;subst n;refine .YY a b λt=>(((d h g e.body i f Fm a b).YI (ax.Zi j d a b)).YI (ax.go d a b)).mono λR q s l=>cb ?_
  rw[arm_exec_Try];exact ci (m:=standAt e.pos) (wpAny_standAt (Xv.wp l s))
 |3=>exact .Y1 a b
 |_+4=>exact .stop
end
end
variable {h j:Nat}
section
section
variable {R0:Type} {P:WJ} {w:WG} {K:Nat->WA gi} {F:R0->St->Prop} {Fm:Wy Env} {β:Type}
theorem lw:∀{l:Wy aF},(addrs l).Nodup->∀{d e:aF},d∈l->e∈l->d.addr=e.addr->d=e
 |[],_,_,_,i,_,_=>by cases i
 |c::l,g,d,e,j,k,h=>by
  simp only[addrs,List.map_cons,List.nodup_cons]at g;rcases t6 j with a|a<;>rcases t6 k with b|b
  ·rw[a,b]
  ·have:=t8 (f:=aF.addr) b;rw[<-h,a]at this;exact absurd this g.1
  ·have:=t8 (f:=aF.addr) a;rw[h,b]at this;exact absurd this g.1
  ·exact lw (l:=l) g.2 a b h
theorem oI{a:ScopeKind}(b:g9 a=true):a≠ .module:=by rintro rfl;cases b
theorem qT{c a:Str}(b:w1 c a=true):c=a:=by
 unfold w1 at b;revert b;cases PySem.W.Fast.sDec c a with
 |isTrue d=>exact λω=>d
 |isFalse d=>exact λb=>nomatch b
theorem qW{c a:Str}(b:w1 c a=false):(c==a)=false:=by
 unfold w1 at b;revert b;cases PySem.W.Fast.sDec c a with
 |isTrue d=>exact λb=>nomatch b
 |isFalse d=>exact λω=>beq_eq_false_iff_ne.mpr d
theorem ax.YZ{a:Str}{c:Unit->aJ (R0×St) β}{b:(β->WF->Prop)->WF->Prop}(d:ax P w K F Fm (c ()) λR e=>e.heap.CodeRec v a->b R e):ax P w K F Fm (cB (mS K v a) c) b:=by
 have:ax P w K F Fm (mS K v a) λR e=>e.heap.CodeRec v a/\R () e:=
  .YJ λf ω=>.Za λm=>.Zb λo p g j=>.YJ λl ω=>.YL λh=>ax.ret.mono λR e d i=>l.2.elim λn k=>⟨⟨f.1,m,o,n,f.2,i,g,j.trans (by rw[k,qT h])⟩,d⟩
 exact(this.YI λω=>d).mono λω ω d=>d.2 d.1
variable {c:aF}
theorem qX(h:ba K Fm I.heap)(i:X.frame=some a)(k:g9 X.scope.kind=true)(f:Rep P w K Z N I)(e:c∈N.led)(l:ew c.obj=true)(d:c.addr=a):
  ba K (X::Fm) I.heap:=λg b=>by
 rcases t6 b with rfl|b
 ·obtain⟨ob,m,j⟩:=(f.cell c e).get;exact⟨oI k,a,ob,i,d▸m,by rw[wU j];exact l,d▸f.nk c e⟩
 ·exact h g b
theorem qU(b:Rep P w K Z N I)(i:c∈N.led)(h:c.fr=true)(g:c.addr=a):Rep P w K (a::Z) N I:=by
 refine⟨b.cell,b.nd,b.nk,λf e d j=> ?_,b.base,b.gen,b.U6,b.bare,b.use,b.UN,b.UO⟩
 rcases t6 j with q|q
 ·have:f=c:=lw b.nd e i (q.trans g.symm);rw[this,h]at d;cases d
 ·exact b.nf f e d q
theorem qV(b:Rep P w K (a::Z) N I):Rep P w K Z N I:=⟨b.cell,b.nd,b.nk,λf d e c=>b.nf f d e (.tail _ c),b.base,b.gen,b.U6,b.bare,b.use,b.UN,b.UO⟩
theorem oJ{s1:WF}(f:c∈N.led)(e:c.addr=a)(c3:aX (a::Z) N I O s1):aX Z N I O s1:=by
 refine⟨c3.step.weaken (λd b=> ?_) (λd b=>b),c3.led,c3.gl⟩
 rcases t6 b with q|q
 ·exact .inr (q▸e▸t8 f)
 ·exact .inl q
theorem bY.mk'(b:X.frame=some a):bY (X::Fm) a X:=⟨b,by unfold aZ;rw[List.filterMap_cons_some b];exact .head _⟩
theorem ax.deep{a:Nat->aJ (R0×St) β}{b:Nat->(β->WF->Prop)->WF->Prop}(t:∀d,bY (X::Fm) d X->ax P w K F (X::Fm) (a d) (b d)):ax P w K F Fm (cD X a) λR i=>∃d,bY (X::Fm) d X/\b d R i:=
 ⟨λj k c Y g=>by
  obtain⟨d,h,g⟩:=aM g;obtain⟨y,m,_,g⟩:=bj g;obtain⟨f,_,g⟩:=aM (aQ g).2;exact λQ M=>(t d (.mk' h)).gr j k _ _ (aQ (aQ g).2).2 Q (.tail _ M),λj O c i R k e q D=>by
  obtain⟨d,h,e⟩:=Good.opt (x:=X.frame) e;obtain⟨y,m,_,e⟩:=Good.lst (l:=c.UT) e;obtain⟨J,e⟩:=Good.YR (b:=g9 X.scope.kind) e;obtain⟨f,H,e⟩:=Good.opt (x:=cellAt c.led y) e;obtain⟨L,e⟩:=Good.YR (b:=ew f.obj) e;obtain⟨I,e⟩:=Good.YR (b:=f.fr) e;have z:=t d (.mk' h);have r:Al F (a d j) ⟨c.led,c.gl,c.al,c.sl,m,c.use,c.UN,c.bl,.n f.addr d::c.lg⟩:=e;have o:f.addr=d:=r.YN (z.gr j k) _ (.head _);have p:=t9 H;have e1:aZ (X::Fm)=d::aZ Fm:=by unfold aZ;rw[List.filterMap_cons_some h]
  have v:Inv P w K Fm O ⟨c.led,c.gl,c.al,c.sl,m,c.use,c.UN,c.bl,.n f.addr d::c.lg⟩ i:=q.same;refine⟨d,.mk' h,z.sd j (⟨c.led,c.gl,c.al,c.sl,m,c.use,c.UN,c.bl,.n f.addr d::c.lg⟩,i) _ i R k r ⟨by rw[e1];exact qU v.rep p I o,qX q.fr h J q.rep p L o,.refl ..⟩ λC T s1 G N=>D C T s1 G ?_⟩
  obtain⟨A,_,s⟩:=N;rw[e1]at A s;exact v.next (qV A) (oJ p o s)⟩
variable {b:FuncData} {e:WH->WF->Prop}
theorem w2{a:WK}{c:Addr}{d:Args}{g:gi}{f:Expr}(t:a.depth<recursionLimit)
 (s:I.heap.get? c=some g)
 (q:g.data= .func b)(p:b.scope.isCoroutine=false)(r:b.scope.isGenerator=false)(n:b.body= .expr f)(o:I.heap.CodeRec b.code b.qualname)
 (m:wpAny (model P w) a.in1 (bindArgs b d) (λk v=>
   wpAny (model P w) a.in1 (newFunctionEnv b.scope b.globals b.closure k (b.qualname++ ".<locals>.") (some c) b.code none b.builtins)
    (λl j=>j.heap.NoLimit/\codeAny (model P w) a (.expr f l) e j) (λh i=>e (.error h) i) v) (λh i=>e (.error h) i) I):
  codeAny (model P w) a (.call (.ref c) d) e I:=kla_callFunE t s q p r n o m
theorem w3{a:WK}{b:Expr}
 (h:wpAny (model P w) (a.deeper X) (eval b X) (λi c=>e (.ok (.ret i)) c)
   (λf c=>wpAny (model P w) (a.deeper X) (leaving X f) (λω d=>e (.error f) d) (λg d=>e (.error g) d) c) I):
  codeAny (model P w) a (.expr b X) e I:=kla_codeExpr h
theorem oK{c:Type}{a:Str}{b:Wy (Str×c)}(d:px a b=true):(b.lookup a).isSome=false:=by
 induction b with
 |nil=>rfl
 |cons h b g=>
  obtain⟨f,i⟩:=h;unfold px at d;cases e:w1 a f with
  |true=>rw[e]at d;cases d
  |false=>
   rw[e]at d;rw[List.lookup_cons,qW e];exact g d
variable {a:WA NameKind}
theorem Og(b:Yk a=true):a=some .globalImplicit:=by
 cases a with
 |none=>cases b
 |some c=>cases c<;>first|rfl|cases b
theorem Ol(b:Yl a=true):a=some .free:=by
 cases a with
 |none=>cases b
 |some c=>cases c<;>first|rfl|cases b
noncomputable def Ot(P:WJ)(w:WG)(b:WK)(d:Wy Stmt)(h:wM)(a:Env)(c:Unit->WF->Prop)(f:WF):Prop:=PySem.wpAt (model P w) b (.func d a) (exec h.stm a) (λe g=>e= .next/\c () g) bM f
theorem rB{a:WK}{d:wM}{f:Wy Stmt}{e:Unit->WF->Prop}{l i:gi}{c:Str}{g:Arg}{k:Str}{m:Nat}
 (J:X.func=some j)(A:X.code= .ref h)(O:X.kindOf (Str.ofString "super")=some .globalImplicit)(N:X.kindOf (Str.ofString "__class__")=some .free)(M:interactive X=false)(x:(d.name==Str.ofString "__class__")=false)
 (D:I.heap.get? j=some l)(C:l.data= .func b)(T:(b.params.posonlyargs++b.params.args).head?=some g)(v:g.arg=c)(z:I.heap.get? h=some i)(Q:i.data= .fields H)(F:H[2]?=some (.str k m))(G:(P.main.file==k)=true)(Y:(P.main.scope.names.lookup (Str.ofString "super")).isSome=false)
 (n:WT P w a (loadName X (Str.ofString "super")) (bo λs I=>s= .type "super" /\WT P w a (loadName X (Str.ofString "__class__")) (bo λq I=>WT P w a (loadName X c) (bo λself I=>WT P w a (isType q) (bo λr I=>r=true/\WT P w a (call (.type "super") [q,self]) (bo λt I=>WT P w a (methodCall d.o d.name d.apos d.pos X t 0 [] []) (bo λω I=>e () I) I) I) I) I) I) I):Ot P w a f d X e I:=by
 subst v;refine ks_wpAt_Expr_any ?_ M (by rfl);rw[arm_eval_Call];refine PySem.wpAt_bind (ks_wpAt_super_base O N x J D C T A z Q F G Y ?_);refine wpAny_mono (aL n) (λs R ⟨L,n⟩=> ?_) λω ω p=>p.elim
 subst L;refine⟨rfl,wpAny_mono (aL n) (λq V n=>wpAny_mono (aL n) (λself W n=>wpAny_mono (aL n) (λr Z ⟨y,n⟩=> ?_) λω ω p=>p.elim) λω ω p=>p.elim) λω ω p=>p.elim⟩
 subst y;refine⟨rfl,wpAny_mono (aL n) (λt a0 n=> ?_) λω ω p=>p.elim⟩
 refine PySem.wpAt_bind (PySem.wpAt_of_wpAny (wpAny_standAt (PySem.wpAt_of_wpAny ?_)));exact wpAny_mono (aL n) (λω ω n=>⟨rfl,n⟩) λω ω p=>p.elim
theorem ax.super{e:Nat}(J:aN P w K F .own e){c:Nat}{b:Cx}{d:wM}{f:Wy Stmt}{X:Env}{a:WK}(r:a.frames=some Fm)(L:oi a c b):ax P w K F Fm (wN K .own ⟨P,w.params⟩ (iter K .own ⟨P,w.params⟩ e) c b d X) (Ot P w a f d X):=by
 have g:=λ{O:Type} (N:Sem O)=>(J c b N a Fm r L).YK
 exact .YJ λW C=>.YJ λn ω=>.YL λs=>.YL λt=>.YL λv=>.YL λx=>.Za λZ=>.YJ λp ω=>.YJ λj ω=>.Za λV=>.Zb λa3 m G H=>.YJ λq ω=>.YL λA=>.YL λD=>
  ((g (loadName X (Str.ofString "super"))).YI λi=>ax.opt.YI λω:{Q:Unit//i= .type "super"}=>(g (loadName X (Str.ofString "__class__"))).YI λk=>(g (loadName X j.1)).YI λself=>(g (isType k)).YI λY=>ax.gate λa0=>(g (call (.type "super") [k,self])).YI λM=>(g (methodCall d.o d.name d.apos d.pos X M 0 [] [])).YI λω=>ax.ret).mono
   λR a1 h y z=>j.2.elim λT l=>q.2.elim λa2 I=>rB C n.2 (Og s) (Ol t) (bf v) (qW (bf x)) z p.2 l.1 l.2 y G (H.trans (congrArg some I)) (beq_iff_eq.mpr (qT A)) (oK D) (wpAny_mono (aL h) (λω ω h=>h.elim λi h=>⟨i.2,h.2⟩) λω ω m=>m)
theorem QZ{c β:Type}(a:Bool)(d e:Sem c)(b:c->Sem β):((if a=true then d else e)>>=b)=if a=true then d>>=b else e>>=b:=by cases a<;>rfl
theorem pE(e:Env)(b c:Sem Wz):raiseStmt e (some b) (some c)=Sz b c>>=λa=>raiseNew a:=by
 unfold raiseStmt Sz GY;simp only[bind_assoc,pure_bind];congr 1;funext g;congr 1;funext d;congr 1;funext a;simp only[QZ];cases d with
 |none=>exact if_pos rfl
 |_=>exact if_neg (λf=>by cases f)
theorem Cr(a:wL):handleWith a.v a.env [.ExceptHandler none (some a.n) [.Raise (some a.x) (some a.c) a.rp] a.hp]=MR a>>=λω=>(execs [.Raise (some a.x) (some a.c) a.rp] a.env).attempt>>=λd=>(match d with
  | .ok e=>pure e
  | .error b=>noteFrame b a.env>>=λω=>MU a b>>=λω=>throw b):=by
 unfold handleWith MR Cf;simp only[bind_assoc];congr 1;funext _;congr 1;funext _;congr 1;funext _;congr 1;funext d;cases d with
 |ok e=>rfl
 |error b=>
  unfold MU Ci PySem.passOn;simp only[bind_assoc];congr 1;funext _;congr 1;funext _;congr 1;funext g;cases g with
  |none=>exact if_pos rfl
  |_=>exact if_neg (λf=>by cases f)
theorem ti(a:wL):exec (.Raise (some a.x) (some a.c) a.rp) a.env=MS a>>=λb=>raiseNew b:=by rw[arm_exec_Raise];unfold MS Cg;simp only[bind_assoc];congr 1;funext _;exact pE _ _ _
end
theorem oj{d:Type}{b:Model}{e:d->WF->Prop}{E:Wz->WF->Prop}(l:F.handled=some (.ref c))(m:a≠c)(h:wpAny b F (MT (.ref a) (.ref c)) (λω g=>E (.ref a) g) E I):wpAny b F (raiseNew (.ref a):Sem d) e E I:=by
 have k:((Value.ref c) !=(Value.ref a))=true:=bne_iff_ne.mpr λn=>m (by cases n;rfl)
 have i:(raiseNew (.ref a):Sem d)=handled>>=λf=>(match f with
   |some c=>(if(c !=Value.ref a)=true then MT (.ref a) c>>=λω=>throw (.ref a)else throw (.ref a))
   |none=>throw (.ref a)):=by
  unfold raiseNew;congr 1;funext f;cases f with
  |none=>rfl
  |some c=>
   show(if _ then _ else _)=if _ then _ else _
   cases (c !=Value.ref a)with
   |false=>rfl
   |true=>
    rw[if_pos rfl,if_pos rfl];refine(?_:_=(holding [Value.ref a] _>>=λω=>updateField a 2 c)>>=_)
    rw[bind_assoc]
 rw[i];refine ci (wpAny_handled ?_);rw[l];show wpAny b F (if _ then _ else _) e E I;rw[if_pos k];exact ci (wpAny_mono h (λω g j=>wpAny_throw j) λω ω o=>o)
end
section
section
variable {R0:Type} {P:WJ} {w:WG} {K:Nat->WA gi} {F:R0->St->Prop} {Fm:Wy Env} {β:Type}
theorem sb(a:Co):denote table a.YQ=match a.tree .own with
  | .inl c=>c.onRaise λb=>do noteFrame b a.env;theTreesLotGoes b
  | .inr c=>(c.onRaise λb=>do noteFrame b a.env;theTreesLotGoes b)>>=λd=>return .done d:=by cases a<;>rfl
structure lx(P:WJ)(w:WG)(K:Nat->WA gi):Prop where
 nl:∀h:Heap,gq K h->h.NoLimit
 ex:∀(A:WK) (R:WH->WF->Prop) (s:WF) (v:Wz),gq K s.heap->(R (.ok (.ret (.ref (s.heap.objs.size+1)))) {s with heap:=(s.heap.push (kD v)).push (pz (.ref 44) s.heap.objs.size)})->codeAny (model P w) A (.builtin "Exception.__new__" ⟨[.ref 44,v],[]⟩) R s
theorem ax.func{e:Nat}(p:aN P w K F .own e)(q:BodyOk P w K F .own e){d:Nat}{b:Cx}{f g:Wy Stmt}{X:Env}{a:WK}(m:a.frames=some Fm)(n:oi a d b):ax P w K F Fm (kC K .own ⟨P,w.params⟩ (iter K .own ⟨P,w.params⟩ e) d b f X) λR j=>PySem.wpAt (model P w) a (.func g X) (execs f X) (λi l=>R (.ok i) l) (λk l=>R (.error k) l) j:=by
 refine .Zh ?_ ((q d b f X a Fm m n).mono λR j h=>PySem.wpAt_of_wpAny (c:= .func g X) h)
 match f with
 |[]=>exact .stop
 |[_]=>exact .stop
 |t::s1::r=>
  refine .YJ λs ω=>((p d b (execs [t] X) a Fm m n).YK.YI (V:=λi R j=>i= .next/\Ot P w a g s.1 X (λω=>WT P w a (execs r X) R) j) λi=> ?_).mono λR j h=> ?_
  ·cases i with
   |next=>exact((ax.super p m n).YI λω=>q d b r X a Fm m n).mono λR j h=>⟨rfl,h⟩
   |_=>exact .stop
  ·refine ks_wpAt_execs_cons (PySem.wpAt_of_wpAny (jU (wpAny_mono (aL h) (λi l ⟨k,h⟩=> ?_) λω ω o=>o.elim)))
   subst k;rw[s.2];refine ks_wpAt_execs_cons (PySem.wpAt_mono h (λi l ⟨k,h⟩=> ?_) λω ω o=>o.elim)
   subst k;exact PySem.wpAt_of_wpAny h
noncomputable def Ou(f:Model)(e:WK)(b:WH->WF->Prop)(a:PySem.Fin)(d:WF):Prop:=match a with
 | .done a=>b (.ok a) d
 | .again c=>c.quiet=true/\codeAny f e c b d
variable {a:WK} {b:Cx}
theorem ax.fin(h:pD P w K F .own e)(g:a.frames=some Fm)(i:MV a d b):∀c,ax P w K F Fm (Hq (iter K .own ⟨P,w.params⟩ e) d b c) λR j=>Ou (model P w) a R c j
 | .done _=>.ret
 | .again f=>.gate λω=>h d b f a Fm g i
variable {c:Code}
theorem bO(f:b9 c)(e:MV a d b):oi (a.under c) d b:=⟨e.hd,λg h=>by rw[bx (i5 f)];exact e.top g h,by have:=e.dep;have:=f.wt;refine(?_:a.depth+c.weight+_<=_);lia,by have:=e.U9;have:=f.un;refine(?_:a.units+c.cUnits+_<=_);lia⟩
variable {e:WH->WF->Prop}
theorem bF(g:wpAny (model P w) (a.under c) (denote table c) (Ou (model P w) a e) (λd h=>e (.error d) h) I):codeAny (model P w) a c e I:=
 codeAny_of_tree (wpAny_mono g (λf ω b=>by cases f<;>exact b) λω ω b=>b)
theorem ax.Y5{e:Nat}(m:aN P w K F .own e)(n:pD P w K F .own e)(j:a.frames=some Fm)(ok:MV a d b):ax P w K F Fm (qN .own (iter K .own ⟨P,w.params⟩ e) d b c) (codeAny (model P w) a c):=
 .YJ λo ω=>have k:=o.2;((m d b (denote table c) (a.under c) Fm ((i5 k).trans j) (bO k ok)).YI (V:=λg R h=>match g with
  | .ok f=>Ou (model P w) a R f h
  | .error i=>R (.error i) h) λg=>by
  cases g with
  |ok f=>exact .fin n j ok f
  |error i=>exact .ret).mono λR h l=>bF l
theorem ax.YU(c:a.frames=some Fm){β:Type}{b:β}:ax P w K F Fm (cB (Mine.fg f v) λω=>cR b) λR d=>bY Fm f X->wpAny (model P w) a (noteFrame v X) (λω e=>R b e) bM d:=(ax.note c).YI λω=>ax.ret
theorem cd{e:WF->Prop}{E:Wz->WF->Prop}(c:wpAny (model P w) a (noteFrame v X) (λω b=>e b) bM I):wpAny (model P w) a (noteFrame v X>>=λω=>theTreesLotGoes v) (λω b=>e b) E I:=ci (b8 (wpAny_mono c (λω ω v=>wpAny_theTreesLotGoes v) λω ω v=>v))
theorem ax.Y4{e:Nat}(v:aN P w K F .own e)(n:b9 c)(s:a.frames=some Fm)(ok:MV a d b){env:Env}{h:Type}{g:h->aJ (R0×St) WH}{i:h->(WH->WF->Prop)->WF->Prop}(m:∀j,ax P w K F Fm (g j) (i j))(o:Sem h):
  ax P w K F Fm (X6 (iter K .own ⟨P,w.params⟩ e) d b f g o) λR l=>bY Fm f env->wpAny (model P w) (a.under c) (o.onRaise λk=>do noteFrame k env;theTreesLotGoes k) (λj=>i j R) (λr q=>R (.error r) q) l:=
 ((v d b o (a.under c) Fm ((i5 n).trans s) (bO n ok)).YI (V:=λ(p:Except Wz h) R l=>match p with
   | .ok j=>i j R l
   | .error k=>bY Fm f env->wpAny (model P w) (a.under c) (noteFrame k env) (λω q=>R (.error k) q) bM l) λp=>by
   cases p with
   |ok j=>exact m j
   |error r=>exact ax.YU ((i5 n).trans s)).mono λR l m t=>wpAny_onRaise (wpAny_mono m (λω ω k=>k) λk ω x=>cd (x t))
theorem ax.inner{e:Nat}(p:aN P w K F .own e)(q:pD P w K F .own e)(g:a.frames=some Fm)(h:MV a d b):ax P w K F Fm (Yr .own (iter K .own ⟨P,w.params⟩ e) d b c) (codeAny (model P w) a c):=by
 refine .YJ λr ω=>.YJ λf ω=>.YY g h.toT λt=> ?_
 have n:=r.2;have m:=(congrArg (denote table) f.2).trans (sb f.1);cases o:f.1.tree .own with
 |inl k=>
  refine(ax.Y4 (env:=f.1.env) p n g h (ax.fin q g h) k).mono λR s j i=>bF ?_
  rw[m,o];exact j i
 |inr k=>
  refine(ax.Y4 (env:=f.1.env) p n g h (λv=>ax.ret) k).mono λR s j i=>bF ?_
  rw[m,o];exact ci (wpAny_mono (j i) (λω ω l=>cj l) λω ω l=>l)
theorem ax.exc(f:lx P w K):ax P w K F Fm (Xo c) (codeAny (model P w) a c):=
 .YJ λb ω=>((ax.new (ob:=kD b.1) rfl).YI λh=>(ax.new (ob:=pz (.ref 44) h) rfl).YI λi=>.ret).YP λj k R d g e=>
  b.2▸f.ex a R d b.1 g.rep.base (Heap.size_push d.heap (kD b.1)▸e)
theorem ax.apart{f d:Nat}:ax P w K F Fm (Mine.iQ f d) λR p=>f≠d/\R () p:=
 ⟨λt k a H e=>by
  obtain⟨m,g,_,e⟩:=bj e;obtain⟨h,g,_,e⟩:=bj e;obtain⟨i,_,e⟩:=aM (aQ e).2;obtain⟨j,_,e⟩:=aM e;exact λD C=>k _ _ _ e D (.tail _ (.tail _ C)),λt G a p R k c m y=>by
  obtain⟨o,g,_,c⟩:=Good.lst (l:=a.UT) c;obtain⟨h,g,_,c⟩:=Good.lst (l:=g) c;obtain⟨r,c⟩:=Good.YR (b:=bL (Nat.beq o h)) c;obtain⟨i,z,c⟩:=Good.opt (x:=cellAt a.led o) c;obtain⟨j,A,c⟩:=Good.opt (x:=cellAt a.led h) c;have q:Al F (t ()) ⟨a.led,a.gl,a.al,a.sl,g,a.use,a.UN,a.bl,.n i.addr f:: .n j.addr d::a.lg⟩:=c;have s:=q.YN (k _);have e1:i.addr=f:=s _ (.head _);have e2:j.addr=d:=s _ (.tail _ (.head _));refine⟨λv=> ?_,y () _ p q m.same⟩
  have:o=h:=j7 m.rep.nd z A (by rw[e1,e2,v]);subst this;rw[Nat.beq_refl]at r;cases r⟩
theorem Pp{b:wL}(k:a.handled=some (.ref d))(i:bY Fm f b.env)
 (g:WT P w (a.under b.YQ) (MR b) (bo λω I=>WT P w (a.under b.YQ) (MS b) (bo λj I=>∃h:{i:Nat//j= .ref i},j= .ref h.1/\h.1≠d/\WT P w (a.under b.YQ) (MT (.ref h.1) (.ref d)) (bo λω I=>bY Fm f b.env->wpAny (model P w) (a.under b.YQ) (noteFrame (.ref h.1) b.env) (λω I=>WT P w (a.under b.YQ) (MU b (.ref h.1)) (bo λω I=>bY Fm f b.env->wpAny (model P w) (a.under b.YQ) (noteFrame (.ref h.1) b.env) (λω I=>e (.error (.ref h.1)) I) bM I) I) bM I) I) I) I):codeAny (model P w) a b.YQ e I:=by
 refine codeAny_of_tree ?_;refine ci (wpAny_onRaise (m:=handleWith b.v b.env [.ExceptHandler none (some b.n) [.Raise (some b.x) (some b.c) b.rp] b.hp]) ?_);rw[Cr];refine ci (b8 (wpAny_mono (aL g) (λω p g=> ?_) λω ω g=>g))
 refine ci (wpAny_attempt (wpAny_execs_cons ?_));rw[ti];refine ci (b8 (wpAny_mono (aL g) (λj s1 ⟨⟨h,o⟩,_,l,g⟩=> ?_) λω ω g=>g))
 subst o;refine oj k l (b8 (wpAny_mono (aL g) (λω q g=> ?_) λω ω g=>g))
 refine ci (b8 (wpAny_mono (g i) (λω r g=> ?_) λω ω g=>g))
 refine ci (b8 (wpAny_mono (aL g) (λω s g=>wpAny_throw ?_) λω ω g=>g))
 exact cd (g i)
theorem ax.raz{e:Nat}(q:aN P w K F .own e)(n:a.frames=some Fm)(m:MV a d b):ax P w K F Fm (Xn .own (iter K .own ⟨P,w.params⟩ e) d b c) (codeAny (model P w) a c):=by
 refine .YJ λr ω=>.YJ λi ω=> ?_
 have o:=r.2;obtain⟨i,f⟩:=i;subst f;have l:=(i5 o).trans n;have j:=λ{v:Type} (s:Sem v)=>(q d b s (a.under i.YQ) Fm l (bO o m)).YK
 exact .YJ λy p=>.YJ λh ω=>.YY n m.toT λx=>((j (MR i)).YI λω=>(j (MS i)).YI λt=>ax.opt.YI λf:{k:Nat//t= .ref k}=>ax.apart.YI λω=>(j (MT (.ref f.1) (.ref h.1))).YI λω=>(ax.note l).YI λω=>(j (MU i (.ref f.1))).YI λω=>ax.YU l).mono λR z g k=>
  Pp (m.hd.trans (p.trans (congrArg some h.2))) k (wpAny_mono (aL g) (λω ω g=>wpAny_mono (aL g) (λω ω h=>h.elim λf h=>⟨f,f.2,h.2⟩) λω ω g=>g.elim) λω ω g=>g.elim)
theorem cf(b:a.frames=some Fm):(a.deeper X).frames=some (X::Fm):=by refine(?_:a.frames.map _=_);rw[b];rfl
theorem jJ(g:a.frames=some Fm)(c:MV a d b)(e:bY (X::Fm) f X):oi (a.deeper X) d ⟨b.hd,some f⟩:=⟨c.hd,λi h=>by cases h;rw[aY (cf g)];exact e.mem,by have:=c.dep;refine(?_:a.depth+1+_<=_);lia,by have:=c.U9;refine(?_:a.units+3+_<=_);lia⟩
theorem Xw(c:MV a d b):oi a.in1 d b:=⟨c.hd,c.top,by have:=c.dep;refine(?_:a.depth+_<=_);lia,by have:=c.U9;refine(?_:a.units+1+_<=_);lia⟩
noncomputable def X9(f:Model)(d:WK)(Fm:Wy Env)(e:Nat)(g:Env)(i:β->Flow)(j:Except Wz β)(b:WH->WF->Prop)(a:WF):Prop:=match j with
 | .ok h=>b (.ok (i h)) a
 | .error c=>bz f d Fm e g c (λω a=>b (.error c) a) a
theorem ax.end_{e:Nat}(i:aN P w K F .own e)(h:a.frames=some Fm)(j:oi a d b){g:β->Flow}:∀c,ax P w K F Fm (qM .own (iter K .own ⟨P,w.params⟩ e) d b f g c) (X9 (model P w) a Fm f X g c)
 | .ok _=>.ret
 | .error _=>(ax.leave i h j).YI λω=>.ret
noncomputable def Yb(P:WJ)(w:WG)(e:WK)(f:FuncData)(d:Env)(g:Bd)(b:WH->WF->Prop)(a:WF):Prop:=match g with
 | .gen c=>b (.ok (.ret (.ref a.heap.objs.size))) {a with gens:=a.gens.push (.fresh (.func c d)),toks:=a.toks+1+1,heap:=a.heap.push {cls:= .type "generator",data:= .fields #[.int a.gens.size 0,.str f.name a.toks,.str f.qualname (a.toks+1)]}}
 | .st c=>codeAny (model P w) e (.func c d) b a
 | .ex h=>codeAny (model P w) e (.expr h d) b a
theorem ax.body{e:Nat}(j:aN P w K F .own e)(q:BodyOk P w K F .own e){c:FuncData}(g:a.frames=some Fm)(k:MV a d b):∀m,ax P w K F Fm (Cs K .own ⟨P,w.params⟩ (iter K .own ⟨P,w.params⟩ e) d b c X m) (Yb P w a c X m)
 | .gen n=>ax.gen.YI λs=>ax.tok.YI λt=>ax.tok.YI λv=>(ax.new rfl).YI λf=>.ret
 | .st n=>(ax.deep λi f=>(ax.func j q (cf g) (jJ g k f)).YI (ax.end_ j (cf g) (jJ g k f))).mono λR r ⟨i,f,l⟩=>ks_codeAny_funcAt (PySem.wpAt_mono l (λp ω h=>by cases p<;>exact h) λω ω h=>bz.leaving f h)
 | .ex o=>(ax.deep λi f=>(j d ⟨b.hd,some i⟩ (eval o X) (a.deeper X) _ (cf g) (jJ g k f)).YI (ax.end_ j (cf g) (jJ g k f))).mono λR r ⟨i,f,l⟩=>w3 (wpAny_mono l (λω ω h=>h) λω ω h=>bz.leaving f h)
theorem w8(v:MV a d b){h:Args}{i:gi}{c:FuncData}{g:Bd}(q:I.heap.get? f=some i)(o:i.data= .func c)(m:c.scope.isCoroutine=false)(k:wT c.scope.isGenerator c.body g)(n:I.heap.CodeRec c.code c.qualname)
 (j:WT P w a.in1 (bindArgs c h) (bo λs I=>WT P w a.in1 (newFunctionEnv c.scope c.globals c.closure s (c.qualname++ ".<locals>.") (some f) c.code none c.builtins) (bo λt I=>I.heap.NoLimit/\Yb P w a c t g e I) I) I):codeAny (model P w) a (.call (.ref f) h) e I:=by
 have p:a.depth<recursionLimit:=by have:=v.dep;refine(?_:a.depth<1000);lia
 cases g with
 |st r=>exact codeAny_call_function p q o m k.1 k.2 n (b8 (wpAny_mono (aL j) (λω ω j=>b8 (aL j)) λω ω l=>l))
 |ex r=>exact w2 p q o m k.1 k.2 n (b8 (wpAny_mono (aL j) (λω ω j=>b8 (aL j)) λω ω l=>l))
 |gen r=>exact codeAny_call_generator p q o m k.1 k.2 n (b8 (wpAny_mono (aL j) (λω ω j=>b8 (aL j)) λω ω l=>l))
theorem ax.call(q:lx P w K){e:Nat}(n:aN P w K F .own e)(v:BodyOk P w K F .own e)(m:a.frames=some Fm)(j:MV a d b):ax P w K F Fm (callC K .own ⟨P,w.params⟩ (iter K .own ⟨P,w.params⟩ e) d b c) (codeAny (model P w) a c):=by
 have l:=λ{z:Type} (y:Sem z)=>(n d b y a.in1 Fm m (Xw j)).YK
 exact .YJ λk ω=>.Za λx=>.YJ λf ω=>.YJ λg ω=>.YZ (((l (bindArgs f.1 k.1.2)).YI λo=>(l (newFunctionEnv f.1.scope f.1.globals f.1.closure o (f.1.qualname++ ".<locals>.") (some k.1.1) f.1.code none f.1.builtins)).YI λp=>(ax.body n v m j g.1).YP (V:=λR h=>h.heap.NoLimit/\Yb P w a f.1 p g.1 R h) λx A R h t i=>⟨q.nl _ t.rep.base,i⟩).mono λR h i r s=>k.2▸w8 j s f.2 g.2.1 g.2.2 r i)
theorem w5(d:lx P w K){e:Nat}(c:aN P w K F .own e)(f:pD P w K F .own e)(j:BodyOk P w K F .own e):pD P w K F .own (e+1):=λm l h g Fm a b=>
 (ax.pop.YI (V:=λω=>codeAny (model P w) g h) λk=>match k with
  |0=>.call d c j a b
  |1=>.Y5 c f a b
  |2=>.told a b
  |3=>.inner c f a b
  |4=>.raz c a b
  |5=>.exc d
  |_+6=>.stop).mono λR n ⟨_,i⟩=>i
end
end
variable {g:Nat}
section
noncomputable def ol(f:Model)(e:WK)(c:Code)(i:Pos)(k:Sem PySem.Fin)(h:Wy WM)(j:WF)(g:End->WF->Prop):Prop:=
 ∀b:Ctx,b.code=c->b.Woken e->∃a d,Runs f b i k h j a d/\a.quiet=true/\g a d
variable {d:Wy WM}
theorem ol.head{a:Model}{c:Code}{f g:Pos}{h i:Sem PySem.Fin}{e:Wy WM}{b:End->WF->Prop}(n:ol a F c f h d I b)(q:∀{j k l},Runs a j f h d I k l->Runs a j g i e I k l):ol a F c g i e I b:=λj o p=>
 (n j o p).imp λω r=>r.imp λω m=>⟨q m.1,m.2⟩
theorem ol.goto{a:Model}{F:WK}{c R:Code}{f g:Pos}{h i:Sem PySem.Fin}{d e:Wy WM}{I:WF}{b:End->WF->Prop}(n:ol a F R f h d I b)(q:∀{j:Ctx} {k l},j.code=c->Runs a (j.goto R) f h d I k l->Runs a j g i e I k l):ol a F c g i e I b:=λj o p=>
 (n (j.goto R) rfl (p.goto R)).imp λω r=>r.imp λω m=>⟨q o m.1,m.2⟩
structure vg(c:Code)(fs:Wy WM)(L:Nat):Prop where
 plain:fJ fs=true
 fc:frameCount (fs.map Frame.where_)+c.weight<=48
 un:unitsOf (fs.map Frame.where_)+c.cUnits<=80
 envs:∀env∈c.envs++envsOf (fs.map Frame.where_),env.frame=some L/\env.scope.kind≠ .module
 has:c.envs++envsOf (fs.map Frame.where_)≠[]
theorem i8:∀{a:Wy WM},fJ a=true->∀b,marksOver a b=b
 |[],_,_=>rfl
 | .gen .. ::_,c,_=>by simp[fJ]at c
 | .ret e l j g d h f::a,c,b=>by
  cases l with
  |some o=>simp[fJ]at c
  |none=>
   cases j with
   |true=>simp[fJ]at c
   |false=>
    have k:fJ a=true:=c;have i:marksOver (Frame.ret e none false g d h f::a) b=Frame.marks (Frame.ret e none false g d h f) (marksOver a b):=by first|rfl|simp[marksOver]
    rw[i,i8 k];obtain⟨m,n⟩:=b
    first|rfl|simp[Frame.marks,markOver]
theorem oL{a:Nat}:∀{d:Wy Env} {c:Wy g8},mU a d=some c->(∀e∈c,e.ok)->(∀f∈d,f.frame=some a/\f.scope.kind≠ .module)/\c.length=d.length
 |[],c,b,_=>by cases b;exact⟨λω n=>(by cases n),rfl⟩
 |f::d,c,b,h=>by
  simp only[mU]at b;split at b
  ·rename_i i k m;split at b
   ·rename_i r l;cases b;obtain⟨o,p⟩:=oL l (λe j=>h e (.tail _ j))
    have e1:i=a:=h _ (.head _);refine⟨λq g=> ?_,congrArg (· +1) p⟩
    rcases t6 g with rfl|g
    ·exact⟨e1▸k,oI m⟩
    ·exact o q g
   ·cases b
  ·cases b
noncomputable def bv(a:Nat):Env:=⟨⟨.function,[],false,false,[]⟩,0,0,[],Str.empty,none,.none,some a,0⟩
variable {b:Wy Env}
theorem cv{c:Code}(a:F.frames=some b):(F.over c d).frames=some ((c.envs++envsOf (d.map Frame.where_))++b):=by refine(?_:pushEnvs c.envs (pushEnvs (envsOf (d.map Frame.where_)) F.frames)=_);rw[a,pushEnvs_eq,pushEnvs_eq,List.append_assoc];rfl
variable {c:Wy Env}
theorem Pq(h:∀d∈c,d.frame=some a/\d.scope.kind≠ .module)(j:c≠[])(e:Nat):e∈aZ (c++b) ↔e∈aZ (bv a::b):=by
 refine(?_:e∈(c++b).filterMap (·.frame) ↔e∈a::aZ b);rw[List.filterMap_append,List.mem_append,List.mem_cons];refine or_congr_left ⟨λf=> ?_,λf=> ?_⟩
 ·obtain⟨d,i,g⟩:=List.mem_filterMap.mp f;rw[(h d i).1]at g;exact(Option.some.inj g).symm
 ·subst f;cases c with
  |nil=>exact absurd rfl j
  |cons d k=>exact List.mem_filterMap.mpr ⟨d,.head _,(h d (.head _)).1⟩
theorem xD{d:Nat->WA gi}{e:Heap}(h:∀f∈c,f.frame=some a/\f.scope.kind≠ .module)(i:ba d (bv a::b) e):ba d (c++b) e:=λf g=>by
 rcases ud g with g|g
 ·obtain⟨_,m,k,j,l⟩:=i _ (.head _);cases j;exact⟨(h f g).2,a,k,(h f g).1,l⟩
 ·exact i f (.tail _ g)
section
variable {R0:Type} {P:WJ} {w:WG} {K:Nat->WA gi} {F:R0->St->Prop} {Fm:Wy Env} {β:Type}
theorem Rep.congr{a:Wy Addr}(b:Rep P w K a N I)(e:∀c,c∈Z->c∈a):Rep P w K Z N I:=⟨b.cell,b.nd,b.nk,λd f g h=>b.nf d f g (e _ h),b.base,b.gen,b.U6,b.bare,b.use,b.UN,b.UO⟩
theorem aX.congr{a:Wy Addr}{s1:WF}(c:aX a N I O s1)(f:∀d,d∈a->d∈Z):aX Z N I O s1:=
 ⟨c.step.weaken (λe b=>.inl (f e b)) (λω b=>b),c.led,c.gl⟩
theorem ax.congr{c:Wy Env}{b:aJ (R0×St) β}{a:(β->WF->Prop)->WF->Prop}(e:∀d,d∈aZ c ↔d∈aZ Fm)(q:∀e,ba K Fm e->ba K c e)(k:ax P w K F c b a):ax P w K F Fm b a:=
 ⟨k.gr,λs t j i R o l g n=>k.sd s (j,i) j i R o l ⟨g.rep.congr λd f=>(e d).mp f,q _ g.fr,.refl ..⟩ λm r s1 p h=>n m r s1 p (g.next (h.rep.congr λd f=>(e d).mpr f) (h.UU.congr λd f=>(e d).mp f))⟩
variable {a:(β->WF->Prop)->WF->Prop} {b:aJ (R0×St) β}
theorem ax.given{c:Prop}(d:Gr b)(i:c->ax P w K F Fm b a):ax P w K F Fm b λR e=>c->a R e:=⟨d,λm k l e R d f j h g=>(i g).sd m k l e R d f j h⟩
variable (P w K F)
noncomputable abbrev ly(h:gj)(i:Nat):Prop:=∀(e:Nat) (c:Code) (f:Pos) (g:Sem PySem.Fin) (d:Wy WM) (b:Nat) (a:WK) (Fm:Wy Env),a.frames=some Fm->JP a e->ax P w K F (bv b::Fm) ((iter K h ⟨P,w.params⟩ i).s e c f g d b) λR j=>vg c d b->ol (model P w) a c f g d j R
variable {P w K F}
variable {h:Type}
noncomputable def Keeps(e:Model)(g:Sem h):Prop:=∀(j:Ctx) (f:h->WF->Prop) (E:Wz->WF->Prop) (d:Pos) (i:WF),
 Sem.wp e j g (λb ω a=>f b a) (λc ω a=>E c a) d i->Sem.wp e j g (λb k a=>k=d/\f b a) (λc ω a=>E c a) d i
variable {c:Code} {d:WK}
theorem w6{b:Pos}{a:Wy WM}{e:End->WF->Prop}{g:Sem h}{f:h->Sem PySem.Fin}(q:Keeps (model P w) g)
 (o:wpAny (model P w) (d.over c a) g (λl s1=>ol (model P w) d c b (f l) a s1 e) (λω ω=>False) I):ol (model P w) d c b (g.wrap f .raise id id) a I e:=by
 rintro n rfl m;have p:=q _ _ _ _ _ (o (n.over a) b (m.over a));obtain⟨k,j,s,r⟩:=runs_wrap_of_wp (Φ:=λk j=>k.quiet=true/\e k j) f .raise id id g p (λl t j i=>by
  obtain⟨rfl,i⟩:=i;exact i n rfl m) (λv t j i=>i.elim)
 exact⟨k,j,s,r⟩
theorem ax.node(n:aN P w K F .own f)(s:ly P w K F .own f){g:Sem h}{k:h->Sem PySem.Fin}(r:Keeps (model P w) g){p:Pos}{fs:Wy WM}{L:Nat}(l:d.frames=some Fm)(i:JP d e):
  ax P w K F (bv L::Fm) (jR (iter K .own ⟨P,w.params⟩ f) e c p fs L g k) λR o=>vg c fs L->ol (model P w) d c p (g.wrap k .raise id id) fs o R:=by
 have m:=λj=>s e c p (k j) fs L d Fm l i
 have t:oi d e ⟨none,none⟩:=⟨i.hd,λω b=>(by cases b),by have:=i.dep;lia,by have:=i.U9;lia⟩
 refine .given (λx q=>(n e ⟨none,none⟩ g d Fm l t).YK.gr _ λj=>(m j).gr x q) λa=> ?_
 refine((ax.congr (Pq a.envs a.has) (λω=>xD a.envs) (n e ⟨none,none⟩ g (d.over c fs) _ (cv l) ⟨?_,λω b=>(by cases b), ?_, ?_⟩).YK).YI m).mono λR o b=>w6 r (wpAny_mono (aL b) (λj y b=>b a) λω ω v=>v)
 ·refine(?_:(marksOver fs (d.handled,d.handled)).1=none);rw[i8 a.plain];exact i.hd
 ·have:=i.dep;have:=a.fc;refine(?_:d.depth+frameCount (fs.map Frame.where_)+c.weight+2*e<=900);lia
 ·have:=i.U9;have:=a.un;refine(?_:d.units+unitsOf (fs.map Frame.where_)+c.cUnits+12*e<=9000);lia
theorem ax.eqs{c:Wy g8}(h:ax P w K F Fm b a):ax P w K F Fm (Ys c b) λR i=>(∀g∈c,g.ok)/\a R i:=
 ⟨λf e d r q=>λp m=>h.gr f e _ _ q p (uc _ m),λf o d i R e j n k=>⟨λg l=>Al.YN (st:=⟨d.led,d.gl,d.al,d.sl,d.UT,d.use,d.UN,d.bl,c++d.lg⟩) j (h.gr f e) g (ue _ l),h.sd f o ⟨d.led,d.gl,d.al,d.sl,d.UT,d.use,d.UN,d.bl,c++d.lg⟩ i R e j n.same k⟩⟩
theorem mV{a:Wy WM}(b:fL c a=true):fJ a=true/\frameCount (a.map Frame.where_)+c.weight<=48/\unitsOf (a.map Frame.where_)+c.cUnits<=80:=by
 unfold fL at b;cases e:fJ a with
 |false=>rw[e]at b;cases b
 |true=>
  rw[e]at b;cases f:c.isCaller with
  |true=>rw[f]at b;cases b
  |false=>
   rw[f]at b;cases d:Nat.ble (frameCount (a.map Frame.where_)+c.weight) 48 with
   |false=>rw[d]at b;cases b
   |true=>
    rw[d]at b;exact⟨rfl,Nat.le_of_ble_eq_true d,Nat.le_of_ble_eq_true b⟩
theorem ax.enter(t:ly P w K F .own f){b:Pos}{h:Sem PySem.Fin}{a:Wy WM}(n:d.frames=some Fm)(y:JP d e):
  ax P w K F (bv g::Fm) (eL (iter K .own ⟨P,w.params⟩ f) e c b h a g) λR j=>ol (model P w) d c b h a j R:=by
 refine(ax.gate λr=>ax.opt.YI (V:=λi R j=>mU g (c.envs++envsOf (a.map Frame.where_))=some i->ol (model P w) d c b h a j R) λi=> ?_).mono λR j ⟨_,i,l,k⟩=>k l
 cases i with
 |nil=>exact .stop
 |cons l i=>
  refine(ax.eqs (t e c b h a g d Fm n y)).mono λR j ⟨x,k⟩ s=> ?_
  obtain⟨o,p,q⟩:=mV r;obtain⟨v,m⟩:=oL s x;exact k ⟨o,p,q,v,λz=>by rw[z]at m;cases m⟩
theorem ax.Y0(s:ly P w K F .own f){b:Pos}{r:WH}{a:Wy WM}(o:d.frames=some Fm)(t:JP d e):
  ax P w K F (bv g::Fm) (wO (iter K .own ⟨P,w.params⟩ f) e r a g) λR h=>ol (model P w) d c b (leafOf r) a h R:=by
 cases a with
 |nil=>
  refine ax.ret.mono λR h i=> ?_
  rintro l rfl k;exact⟨.ret r,h,Runs.leaf r,rfl,i⟩
 |cons n a=>
  cases n with
  |gen=>exact .stop
  |ret z y x C j D A=>
   refine(ax.enter s o t).mono λR h i=> ?_
   rintro l rfl k;obtain⟨m,v,q,p⟩:=i (l.goto j) rfl (k.goto j);exact⟨m,v,Runs.pop r q,p⟩
theorem ax.YT{e:Nat}{c:Code}{a:Wy WM}{g:Nat}{d:WK}(v:d.frames=some Fm)(r:JP d e):
  ax P w K F (bv g::Fm) (iP e c a g) λR m=>∀s,ol (model P w) d c s (denote table c) a m R:=
 ⟨λD o h a9 p=>by
   obtain⟨i,C,_,p⟩:=bj p;exact Gr.use D o _ _ (aQ (aQ p).2).2,λD a8 h m R o k j N=>by
   obtain⟨i,C,x,k⟩:=Good.lst (l:=h.UN) k;obtain⟨Q,k⟩:=Good.YR (b:=Nat.ble (i.at c h.led h.lg).dep e) k;obtain⟨V,k⟩:=Good.YR (b:=(i.at c h.led h.lg).start.isNone) k;obtain⟨q,A,z⟩:=jD (E:=(i.at c h.led h.lg).UM) (pos:=i.pos) (Ve:=i.Ve) (src:=i.src) (us:=h.use) (ss:=C) (more:=[.c c (i.at c h.led h.lg).code,.f a (i.at c h.led h.lg).fs,.n g (i.at c h.led h.lg).fr]) (out:=(i.at c h.led h.lg).res) o j k j.rep.use λa4 W=>j.rep.UN a4 (by rw[x];exact .tail _ W)
   have J:c=(i.at c h.led h.lg).code:=q _ (.head _);have L:a=(i.at c h.led h.lg).fs:=q _ (.tail _ (.head _));have t:g=(i.at c h.led h.lg).fr:=q _ (.tail _ (.tail _ (.head _)));have a7:(i.at c h.led h.lg).dep<=e:=Nat.le_of_ble_eq_true Q;have a3:gb P w K (i.at c h.led h.lg):=j.rep.UN i (by rw[x];exact .head _) c _ _;have e1:aZ (bv g::Fm)=(i.at c h.led h.lg).fr::aS d:=by rw[aY v,<-t];rfl
   rw[e1]at A z;have O:gz K (i.at c h.led h.lg).fr m.heap:=by
    obtain⟨_,a6,ob,I,Z,a0,a1⟩:=j.fr _ (.head _);cases I;rw[<-t];exact⟨a1,ob,Z,a0⟩
   have y:=a3 d R m ⟨r.hd,by have:=r.dep;lia,by have:=r.U9;lia⟩ ⟨Fm,v,λM Y=>j.fr M (.tail _ Y)⟩ O j.rep.base j.rep.bare A λH a2 s1 G=>z R N H a2 s1 G
   rw[Option.isNone_iff_eq_none.mp V,Option.getD_none,<-J,<-L]at y;exact λs a5 T X=>y a5 s T X⟩
theorem ax.plain{d:WA Wz}{c:Bool}(e:d=none->c=false->ax P w K F Fm b a):ax P w K F Fm (X7 d c b) a:=by
 cases d with
 |some f=>exact .stop
 |none=>
  cases c with
  |true=>exact .stop
  |false=>exact e rfl rfl
theorem w7(a0:aN P w K F .own f)(o:ly P w K F .own f):ly P w K F .own (f+1):=by
 intro M x c A g s q Fm n j;refine(?_:ax P w K F (bv s::Fm) (ez .own ⟨P,w.params⟩ (iter K .own ⟨P,w.params⟩ f) M x c A g s) λR b=>vg x g s->ol (model P w) q x c A g b R)
 have r:=λc A=>o M x c A g s q Fm n j
 have p:=λ{O:Type} {m:Sem O} {e:O->Sem PySem.Fin} (Y:Keeps (model P w) m)=>ax.node (k:=e) (p:=c) (fs:=g) (c:=x) (L:=s) a0 o Y n j
 cases A with
 |pure z=>
  cases z with
  |done z=>exact(ax.Y0 (r:= .ok z) o n j).mono λR b a ω=>a
  |again y=>
   refine(ax.gate λN=>ax.pop.YI (V:=λω R b=>ol (model P w) q y c (denote table y) g b R) λa1=> ?_).mono λR b ⟨N,_,a⟩ _=>ol.goto a λl d=>Runs.head (c₁:=y) (λω ω h=>.again N h) d
   match a1 with
   |0=>exact .enter o n j
   |1=>exact(ax.YT n j).mono λR b a=>a c
   |_+2=>exact .stop
 |raise l=>exact(ax.Y0 (r:= .error l) o n j).mono λR b a ω=>a
 |«yield» a6 C I e=>
  cases C with
  |true=>exact .stop
  |false=>
   unfold ez;cases D:splitAtGen g with
   |some a7=>exact .stop
   |none=>
    refine(ax.gate λω=>ax.ret).mono λR b ⟨G,a⟩ _=> ?_
    rintro k rfl H;exact⟨_,b,Runs.yield' g D,by simp[End.quiet,bf G],a⟩
 |«at» a3 e=>
  refine(r a3 _).mono λR b a i=>(a i).head λd=>Runs.head' (λω ω h=>.at h) d
 |rule a5 e=>
  refine(r c _).mono λR b a i=>(a i).head λd=>Runs.head' (λω ω h=>.rule h) d
 |point I e=>
  refine(r c _).mono λR b a i=>(a i).head λd=>Runs.head' (λω ω h=>.point h) d
 |ask e=>
  refine(r c _).mono λR b a i=>(a i).head λd=>Runs.head' (λω ω h=>.ask h) d
 |handled a2 e=>
  cases a2 with
  |true=>exact .stop
  |false=>
   refine(r c _).mono λR b a i k T H=> ?_
   have Q:(k.over g).handled=none:=by
    rw[(H.over g).1];refine(?_:(marksOver g (q.handled,q.handled)).1=none);rw[i8 i.plain];exact j.hd
   obtain⟨l,a4,Z,X⟩:=a i k T H;exact⟨l,a4,Runs.head' (λω ω h=>.handled (own:=false) (Q.symm▸h)) Z,X⟩
 |load v L e=>exact p (m:= .load v L .pure) λk t E c b ⟨J,W,a⟩=>⟨J,W,rfl,a⟩
 |loadIfAlive v e=>exact p (m:= .loadIfAlive v .pure) λk t E c b a=>⟨rfl,a⟩
 |update v L z e=>exact p (m:= .update v L z .pure) λk t E c b a=>⟨a.1,rfl,a.2⟩
 |alloc J e=>exact p (m:= .alloc J .pure) λk t E c b a=>⟨rfl,a⟩
 |fresh e=>exact p (m:= .fresh .pure) λk t E c b a=>⟨rfl,a⟩
 |call y a C I e=>
  refine .Zh (.plain λe1 e2=> ?_) (.Zh (.plain λe1 e2=> ?_) (p (m:= .call y a C I .pure) λk t E c b ⟨d,s1,D,G⟩=>⟨d,s1,D,rfl,G⟩))
  ·subst e1 e2;refine(ax.enter o n j).mono λR b a ω=>ol.goto a λl d=>by subst l;exact runs_call_seg d
  ·subst e1 e2;refine(ax.YT n j).mono λR b a ω=>ol.goto (a c) λl d=>by subst l;exact runs_call_seg d
 |unsupported|finish|register|choose|os|genState|newGen|resume|stack|fork|thread|await=>exact .stop
theorem l1(d:lx P w K):∀n,aN P w K F .own n/\pD P w K F .own n/\BodyOk P w K F .own n/\ly P w K F .own n
 |0=>⟨λω ω ω ω ω ω ω=>.stop,λω ω ω ω ω ω ω=>.stop,λω ω ω ω ω ω ω ω=>.stop,λω ω ω ω ω ω ω ω ω ω=>.stop⟩
 |n+1=>by
  obtain⟨a,b,c,e⟩:=l1 d n;exact⟨wX a b,w5 d a b c,w0 a c,w7 a e⟩
end
end
section
noncomputable def XF:gj:=⟨PySem.W.Fast.tw11892475500146522536 PySem.W.Fast.tw14364793385576792824,PySem.W.Fast.tw9782568553167038054,λn h f c m a e d=>PySem.W.Fast.tw11113344188204177931 n h f c m a e none d,PySem.W.Fast.tw12563942051412417395,
 PySem.W.Fast.tw14044960220447912780,PySem.W.Fast.tw5670386056902412789,PySem.W.Fast.tw14206642085496868694,PySem.W.Fast.tw11471732733879165300,PySem.W.Fast.tw12362719219628433562,PySem.W.Fast.tw15207555903498437823,PySem.W.Fast.tw1180062409338748621,PySem.W.Fast.tw8468629109055619292,PySem.W.Fast.tw10380811246957099773,λa i=>PySem.W.Fast.tw11478286150595567475 a i,λk j b l g o=>PySem.W.Fast.tw13401596951702201221 k j b l g o 0 [] [],PySem.W.Fast.tw4777696345729990297,PySem.W.Fast.tw15112477048112897374,
 Cf PySem.W.Fast.tw12456147031677567982 PySem.W.Fast.tw5670386056902412789 PySem.W.Fast.tw7536695828754713326,
 Cg PySem.W.Fast.tw12456147031677567982 PySem.W.Fast.tw5670386056902412789 PySem.W.Fast.tw17359229931016689406 PySem.W.Fast.tw14044960220447912780 PySem.W.Fast.tw13596814643533388497 PySem.W.Fast.tw17858455048448223758 PySem.W.Fast.tw10380811246957099773 PySem.W.Fast.tw8847407001960458596 PySem.W.Fast.tw8857416407483246691,
 GZ PySem.W.Fast.tw12456147031677567982 PySem.W.Fast.tw17359229931016689406 PySem.W.Fast.tw12194477576918160588 PySem.W.Fast.tw12367529300394763782 PySem.W.SL.s17444311836927434715x13,
 Ci PySem.W.Fast.tw12456147031677567982 PySem.W.Fast.tw5670386056902412789 PySem.W.Fast.tw7536695828754713326 PySem.W.Fast.tw14851354246082423155 PySem.W.Fast.tw17359229931016689406 PySem.W.Fast.tw6609576154772507232 PySem.W.R.onRaiseR⟩
theorem G1:MR=Cf PySem.W.Fast.tw12456147031677567982 PySem.W.Fast.tw5670386056902412789 PySem.W.Fast.tw7536695828754713326:=by rw[<-PySem.W.Fast.te12456147031677567982,<-PySem.W.Fast.te5670386056902412789,<-PySem.W.Fast.te7536695828754713326];rfl
theorem G2:MS=Cg PySem.W.Fast.tw12456147031677567982 PySem.W.Fast.tw5670386056902412789 PySem.W.Fast.tw17359229931016689406 PySem.W.Fast.tw14044960220447912780 PySem.W.Fast.tw13596814643533388497 PySem.W.Fast.tw17858455048448223758 PySem.W.Fast.tw10380811246957099773 PySem.W.Fast.tw8847407001960458596 PySem.W.Fast.tw8857416407483246691:=by rw[<-PySem.W.Fast.te12456147031677567982,<-PySem.W.Fast.te5670386056902412789,<-PySem.W.Fast.te14044960220447912780,<-PySem.W.Fast.te13596814643533388497,<-PySem.W.Fast.te17858455048448223758,<-PySem.W.Fast.te10380811246957099773,<-PySem.W.Fast.te8847407001960458596,<-PySem.W.Fast.te8857416407483246691,<-PySem.W.Fast.te17359229931016689406];rfl
theorem G3:MT=GZ PySem.W.Fast.tw12456147031677567982 PySem.W.Fast.tw17359229931016689406 PySem.W.Fast.tw12194477576918160588 PySem.W.Fast.tw12367529300394763782 PySem.W.SL.s17444311836927434715x13:=by rw[<-PySem.W.Fast.te12456147031677567982,<-PySem.W.Fast.te12194477576918160588,<-PySem.W.Fast.te12367529300394763782,show PySem.W.SL.s17444311836927434715x13= "proto.unchain" by decide,<-PySem.W.Fast.te17359229931016689406];rfl
theorem G4:MU=Ci PySem.W.Fast.tw12456147031677567982 PySem.W.Fast.tw5670386056902412789 PySem.W.Fast.tw7536695828754713326 PySem.W.Fast.tw14851354246082423155 PySem.W.Fast.tw17359229931016689406 PySem.W.Fast.tw6609576154772507232 PySem.W.R.onRaiseR:=by rw[<-PySem.W.Fast.te12456147031677567982,<-PySem.W.Fast.te5670386056902412789,<-PySem.W.Fast.te7536695828754713326,<-PySem.W.Fast.te14851354246082423155,<-PySem.W.Fast.te6609576154772507232,<-PySem.W.Fast.te17359229931016689406,<-PySem.W.R.onRaiseR_eq];rfl
theorem l2:gj.own=XF:=by
 unfold gj.own XF;rw[G1,G2,G3,G4];rw[<-PySem.W.Fast.te11892475500146522536,<-PySem.W.Fast.te14364793385576792824,<-PySem.W.Fast.te9782568553167038054,<-PySem.W.Fast.te11113344188204177931,<-PySem.W.Fast.te12563942051412417395,
  <-PySem.W.Fast.te14044960220447912780,<-PySem.W.Fast.te5670386056902412789,<-PySem.W.Fast.te14206642085496868694,<-PySem.W.Fast.te11471732733879165300,<-PySem.W.Fast.te12362719219628433562,<-PySem.W.Fast.te15207555903498437823,<-PySem.W.Fast.te1180062409338748621,<-PySem.W.Fast.te8468629109055619292,<-PySem.W.Fast.te10380811246957099773,<-PySem.W.Fast.te11478286150595567475,<-PySem.W.Fast.te13401596951702201221,<-PySem.W.Fast.te15112477048112897374,<-PySem.W.Fast.te4777696345729990297,PySem.table_eq_tree]
section
variable {R0 β:Type}
noncomputable def mB(c:WA (R0×St))(d:R0->St->β):WA (β×Wy g8):=match c with
 |some (b,a)=>some (d b a,a.lg.map g8.lf)
 |none=>none
noncomputable def gL(b:WA (R0×St))(a:β):WA (β×Wy g8):=match b with
 |some (_,c)=>some (a,c.lg)
 |none=>some (a,[])
theorem gM{a:WA (R0×St)}{c:R0->St->β}{b:β}(g:mB a c=gL a b):Good (λi j=>c i j=b) a:=by
 cases a with
 |none=>cases g
 |some n=>
  obtain⟨i,j⟩:=n;simp only[mB,gL,Option.some.injEq,Prod.mk.injEq]at g;obtain⟨k,l⟩:=g;refine⟨i,j,rfl,λd f=> ?_,k⟩
  have:∀e:Wy g8,e.map g8.lf=e->∀d∈e,d.ok:=by
   intro e;induction e with
   |nil=>intro _ d f;cases f
   |cons o e m=>
    intro h d f;rw[List.map_cons,List.cons.injEq]at h;rcases t6 f with q|q
    ·subst q;exact g8.Wi h.1
    ·exact m h.2 d q
  exact this _ l d f
end
noncomputable def dd(E:mw)(b:uh)(e:Wy yq)(d:Wy mQ)(a:AL)(c:SL):St:=⟨E.pre,E.UR,a,c,b,e,d,E.UX,[]⟩
noncomputable def oM(c:aF):aF:=match c.fr with
 |true=>⟨c.addr,kA c.obj,true⟩
 |false=>c
noncomputable def d2(c:uh)(d:St):Wy (WA aF):=c.map λb=>match d.led.reverse[b]? with
 |some a=>some (oM a)
 |none=>none
noncomputable def dC(b:uh)(c:St):Wy (WA (Nat×WI)):=b.map λa=>c.gl.reverse[a]?
noncomputable def dG(b:Wy f8)(a:St):Wy (WA jz):=b.map (j5 a.led a.bl)
noncomputable def bp(E:mw)(b:AL)(c:SL):Wy aF:=(E.pre.zip (E.post b c)).map (λa=>⟨a.1.addr,a.2,a.1.fr⟩)++E.new b c
noncomputable def tZ(E:mw)(a:AL)(c:SL):Wy (Nat×WI):=(E.UR.zip (E.UQ a c)).map (λb=>(b.1.1,b.2))++E.UW a c
noncomputable def dz:Wy (Code->uk->Wy AL->Spec)->Wy (uh)->Wy (uh)->Wy (Wy f8)->Wy yq
 |f::c,d::e,b,a=>⟨f,d,b.headD [],a.headD []⟩::dz c e b.tail a.tail
 |_,_,_,_=>[]
noncomputable def di:Wy (Code->uk->Wy AL->Seg)->Wy (uh)->Wy (uh)->Wy (Wy f8)->Wy mQ
 |f::c,d::e,b,a=>⟨f,d,b.headD [],a.headD []⟩::di c e b.tail a.tail
 |_,_,_,_=>[]
theorem eC{a:Wy (Code->uk->Wy AL->Spec)}:∀{c f:Wy (uh)} {e:Wy (Wy f8)},∀d∈dz a c f e,d.spec∈a:=by
 induction a with
 |nil=>intro c f e d b;simp[dz]at b
 |cons h a g=>
  intro c f e d b;cases c with
  |nil=>simp[dz]at b
  |cons c i=>
   simp only[dz]at b;rcases t6 b with rfl|b
   ·exact .head _
   ·exact .tail _ (g d b)
theorem ed{a:Wy (Code->uk->Wy AL->Seg)}:∀{c f:Wy (uh)} {e:Wy (Wy f8)},∀d∈di a c f e,d.seg∈a:=by
 induction a with
 |nil=>intro c f e d b;simp[di]at b
 |cons h a g=>
  intro c f e d b;cases c with
  |nil=>simp[di]at b
  |cons c i=>
   simp only[di]at b;rcases t6 b with rfl|b
   ·exact .head _
   ·exact .tail _ (g d b)
theorem oN{b:Type}{a:Wy b}(c:a.Nodup):a.reverse.Nodup:=List.pairwise_reverse.mpr (List.Pairwise.imp (λc=>Ne.symm c) c)
theorem hw{b d:Type}{c:b->d}:∀{l:Wy b},(l.map c).Nodup->∀{i j:Nat} {g f:b},l[i]?=some g->l[j]?=some f->c g=c f->i=j
 |[],_,_,_,_,_,r,_,_=>by simp at r
 |a::l,k,m,e,g,f,o,h,n=>by
  simp only[List.map_cons,List.nodup_cons]at k;cases m with
  |zero=>
   simp only[List.getElem?_cons_zero,Option.some.injEq]at o;cases e with
   |zero=>rfl
   |succ e=>
    have p:l[e]?=some f:=by simpa using h
    have:=t8 (f:=c) (t9 p);rw[<-n,<-o]at this;exact absurd this k.1
  |succ m=>
   have q:l[m]?=some g:=by simpa using o
   cases e with
   |zero=>
    simp only[List.getElem?_cons_zero,Option.some.injEq]at h;have:=t8 (f:=c) (t9 q);rw[n,<-h]at this;exact absurd this k.1
   |succ e=>
    have p:l[e]?=some f:=by simpa using h
    rw[hw (l:=l) k.2 (i:=m) (j:=e) q p n]
theorem lz{b d:Type}{f:b->d}{a:Wy b}(c:(a.map f).Nodup):∀{idx:uh} {cs:Wy b},(∀k,idx.map (λi=>a[i]?.map f)=k->k=cs.map (λe=>some (f e)))->idx.Nodup->(cs.map f).Nodup/\∀e∈cs,∃i∈idx,∃g,a[i]?=some g/\f g=f e
 |[],[],_,_=>⟨by simp,λe x=>by cases x⟩
 |[],_::_,c,_=>by have:=c _ rfl;simp at this
 |_::_,[],c,_=>by have:=c _ rfl;simp at this
 |i::idx,e::cs,s,j=>by
  have l:=s _ rfl;simp only[List.map_cons,List.cons.injEq]at l;obtain⟨e1,e2⟩:=l;obtain⟨D,G⟩:=List.nodup_cons.mp j;obtain⟨C,p⟩:=lz c (idx:=idx) (cs:=cs) (λk j=>j▸e2) G
  obtain⟨g,n,m⟩:=Option.map_eq_some_iff.mp e1;refine⟨?_,λI A=> ?_⟩
  ·rw[List.map_cons];refine List.nodup_cons.mpr ⟨λz=> ?_,C⟩
   obtain⟨r,y,t⟩:=ua z;obtain⟨o,h,J,v,w⟩:=p r y;have:=hw c n v (by rw[m,w,t]);exact D (this▸h)
  ·rcases t6 A with q|q
   ·subst q;exact⟨i,.head _,g,n,m⟩
   ·obtain⟨o,h,H⟩:=p I q;exact⟨o,.tail _ h,H⟩
section
variable {P:WJ} {w:WG} {K:Nat->WA gi}
theorem aK.bare{a:Heap}{c:aF}(b:aK a c):aK a (oM c):=by
 unfold oM;cases e:c.fr with
 |false=>exact b
 |true=>
  unfold aK at b|-;rw[e]at b;obtain⟨f,d⟩:=b;exact⟨f,d⟩
theorem m0(c:aF):(oM c).addr=c.addr:=by unfold oM;cases c.fr<;>rfl
variable {g:Wy f8} {d:uh}
theorem iq{E:mw}{b:AL}{c:SL}{s1:WF}(k:Rep P w K Z N s1)(o:aX Z O I N s1)(z:O.led=E.pre)(A:O.gl=E.UR)
 (a2:W.Nodup)(V:d.Nodup)(a3:(E.post b c).length=E.pre.length)(X:(E.UQ b c).length=E.UR.length)
 (C:d2 W N=(bp E b c).map some)(D:dC d N=(tZ E b c).map some)(F:dG g N=(E.US b c).map some):eh E Z b c I s1:=by
 have a5:(N.led.reverse.map (·.addr)).Nodup:=by rw[List.map_reverse];exact oN k.nd
 have a1:(N.gl.reverse.map (·.1)).Nodup:=by rw[List.map_reverse];exact oN k.U6
 have a9:∀{W:uh} {cs:Wy aF},d2 W N=cs.map some->∀e∈cs,∃h∈N.led,oM h=e:=by
  intro W;induction W with
  |nil=>intro cs a e i;cases cs with|nil=>cases i|cons=>simp[d2]at a
  |cons l W t=>
   intro cs a e i;cases cs with
   |nil=>cases i
   |cons M cs=>
    simp only[d2,List.map_cons,List.cons.injEq]at a;rcases t6 i with q|q
    ·subst q;obtain⟨e1,_⟩:=a;split at e1
     ·rename_i h j;exact⟨h,List.mem_reverse.mp (t9 j),Option.some.inj e1⟩
     ·cases e1
    ·exact t (cs:=cs) a.2 e q
 have a8:∀{W:uh} {cs:Wy aF},d2 W N=cs.map some->W.map (λl=>N.led.reverse[l]?.map (·.addr))=cs.map (λe=>some e.addr):=by
  intro W;induction W with
  |nil=>intro cs a;cases cs with|nil=>rfl|cons=>simp[d2]at a
  |cons l W t=>
   intro cs a;cases cs with
   |nil=>simp[d2]at a
   |cons M cs=>
    simp only[d2,List.map_cons,List.cons.injEq]at a|-;obtain⟨e1,e2⟩:=a;refine⟨?_,t (cs:=cs) e2⟩;split at e1
    ·rename_i h j;rw[j,Option.map_some,<-Option.some.inj e1,m0]
    ·cases e1
 have L:=a9 C;obtain⟨v,_⟩:=lz (f:=aF.addr) a5 (idx:=W) (cs:=bp E b c) (λaa r=>r▸a8 C) a2
 have Y:d.map (λl=>N.gl.reverse[l]?.map (·.1))=(tZ E b c).map (λe=>some e.1):=by
  have:=congrArg (List.map (Option.map (·.1))) D;unfold dC at this;rw[List.map_map,List.map_map]at this;exact this
 obtain⟨p,_⟩:=lz (f:=Prod.fst) a1 (idx:=d) (cs:=tZ E b c) (λaa r=>r▸Y) V
 have y:∀e∈tZ E b c,e∈N.gl:=λe i=>by
  have:some e∈dC d N:=by rw[D];exact t8 i
  obtain⟨l,_,a⟩:=ua this;exact List.mem_reverse.mp (t9 a)
 have a4:((E.pre.zip (E.post b c)).map (λq=>(⟨q.1.addr,q.2,q.1.fr⟩:aF))).map (·.addr)=addrs E.pre:=by
  rw[List.map_map];have:((λn:aF=>n.addr) ∘λq:aF×gi=>(⟨q.1.addr,q.2,q.1.fr⟩:aF))=(λm:aF=>m.addr) ∘Prod.fst:=rfl
  rw[this,<-List.map_map,List.map_fst_zip (by lia)];rfl
 have a0:((E.UR.zip (E.UQ b c)).map (λq=>(q.1.1,q.2))).map (·.1)=eg E.UR:=by
  rw[List.map_map];have:((λn:Nat×WI=>n.1) ∘λq:(Nat×WI)×WI=>(q.1.1,q.2))=(λm:Nat×WI=>m.1) ∘Prod.fst:=rfl
  rw[this,<-List.map_map,List.map_fst_zip (by lia)];rfl
 unfold bp at v;rw[List.map_append,a4]at v;obtain⟨_,a6,a7⟩:=List.nodup_append.mp v;unfold tZ at p;rw[List.map_append,a0]at p;obtain⟨_,Q,T⟩:=List.nodup_append.mp p;have J:=o.step;rw[z,A]at J;refine⟨J,a3,λq s=> ?_,X,λq s=> ?_,λe i=> ?_,a6,λm H=> ?_,Q,λB R=> ?_,k.bare⟩
 ·obtain⟨h,j,a⟩:=L _ (ue _ (t8 (f:=λq:aF×gi=>(⟨q.1.addr,q.2,q.1.fr⟩:aF)) s))
  rw[<-a];exact(k.cell h j).bare
 ·exact k.gen _ (y _ (ue _ (t8 (f:=λq:(Nat×WI)×WI=>(q.1.1,q.2)) s)))
 ·obtain⟨h,j,a⟩:=L _ (uc _ i);have x:e.addr=h.addr:=by rw[<-a,m0]
  refine⟨by rw[<-a];exact(k.cell h j).bare, ?_⟩;rcases o.led h j with q|q
  ·rw[z]at q;exact absurd rfl (a7 _ q _ (x▸t8 (f:=aF.addr) i))
  ·rw[x];exact q
 ·have G:=y _ (uc _ H);refine⟨k.gen _ G, ?_⟩;rcases o.gl m G with q|q
  ·rw[A]at q;exact absurd rfl (T _ q _ (t8 (f:=Prod.fst) H))
  ·exact q
 ·have:some B∈dG g N:=by rw[F];exact t8 R
  obtain⟨n,_,a⟩:=ua this;exact jB k a
variable {b:Wy mQ} {c:Wy yq} {e:uh}
theorem e5{E:mw}(i:AL)(n:SL)(d:d7 K E Z I)(k:gq K I.heap)(j:AllBare I.gens)(m:∀h∈c,∀a g Z,ct P w K (h.spec a g Z))(l:∀h∈b,∀a g Z,gb P w K (h.seg a g Z)):
  Rep P w K Z (dd E e c b i n) I:=
 ⟨λa f=>(d.pre a f).1,d.nd,λa f=>(d.pre a f).2.1,λa f=>(d.pre a f).2.2,k,d.UR,d.U6,j,m,l,d.UX⟩
noncomputable def Xx:uh->Bool
 |[]=>true
 |b::a=>match s7 b a with
  |true=>false
  |false=>Xx a
theorem fW:∀{c:uh},Xx c=true->c.Nodup
 |[],_=>.nil
 |d::c,a=>by
  unfold Xx at a;cases b:s7 d c with
  |true=>rw[b]at a;cases a
  |false=>
   rw[b]at a;refine List.nodup_cons.mpr ⟨λe=> ?_,fW a⟩
   rw[mX e]at b;cases b
variable {a:Type}
noncomputable def xG(E:mw)(h:AL->SL->WA (a×St))(f e:uh)(i:Wy f8):=(λb c=>(mB (h b c) (λg d=>(g,d2 f d,dC e d,dG i d)),(E.post b c).length,(E.UQ b c).length),Xx f,Xx e)
noncomputable def xW(E:mw)(f:AL->SL->WA (a×St))(g:AL->SL->a)(d:AL->SL->AL)(e:AL->SL->SL):=(λb c=>(gL (f b c) (g (d b c) (e b c),(bp E (d b c) (e b c)).map some,(tZ E (d b c) (e b c)).map some,(E.US (d b c) (e b c)).map some),E.pre.length,E.UR.length),true,true)
noncomputable def Told(E:mw)(h:AL->SL->a)(f e:uh)(i:Wy f8)(g:a)(d:St):Prop:=∃b c,(g,d2 f d,dC e d,dG i d)=(h b c,(bp E b c).map some,(tZ E b c).map some,(E.US b c).map some)
structure Yc{R0:Type}(E:mw)(r:AL->SL->WA (R0×St))(res:AL->SL->R0)(idx gidx:uh)(src:Wy f8):Prop where
 good:∀al sl,Good (Told E res idx gidx src) (r al sl)
 hi:idx.Nodup
 hg:gidx.Nodup
 hl:∀al sl,(E.post al sl).length=E.pre.length
 hgl:∀al sl,(E.UQ al sl).length=E.UR.length
theorem gf{E:mw}{e:AL->SL->WA (a×St)}{f:AL->SL->a}{b:AL->SL->AL}{c:AL->SL->SL}(k:xG E e W d g=xW E e f b c):Yc E e f W d g:=by
 have o:=congrArg Prod.fst k;have l:=congrArg Prod.snd k;have j:=λh i=>congrFun (congrFun o h) i
 exact⟨λh i=>by
  obtain⟨q,r,m,p,n⟩:=gM (congrArg Prod.fst (j h i));exact⟨q,r,m,p,_,_,n⟩,fW (congrArg Prod.fst l),fW (congrArg Prod.snd l),λh i=>congrArg Prod.fst (congrArg Prod.snd (j h i)),λh i=>congrArg Prod.snd (congrArg Prod.snd (j h i))⟩
theorem mW{E:mw}{a:Wy Env}(d:AL)(i:SL)(p:d7 K E (aZ a) I)(m:ba K a I.heap)(l:gq K I.heap)(k:AllBare I.gens)(o:∀j∈c,∀f h g,ct P w K (j.spec f h g))(n:∀j∈b,∀f h g,gb P w K (j.seg f h g)):
  Inv P w K a (dd E e c b d i,I) (dd E e c b d i) I:=⟨e5 d i p l k o n,m,.refl ..⟩
theorem oz{a:Type}:dj (R0:=a) λb c=>some (b,c):=λb c f e=>by
 cases e;exact λω d=>d
theorem gI{E:mw}{f:AL->SL->a}{Fm:Wy Env}{j:aJ (a×St) a}{i:(a->WF->Prop)->WF->Prop}(k:Yc E (λl m=>j (λM t=>some (M,t)) (dd E e c b l m)) f W d g)
 (L:ax P w K (Told E f W d g) Fm j i)(J:∀q∈c,∀n p o,ct P w K (q.spec n p o))(H:∀q∈b,∀n p o,gb P w K (q.seg n p o))(D:ba K Fm I.heap)(y:gq K I.heap)(x:AllBare I.gens)(N:d7 K E (aZ Fm) I)
 {h:a->WF->Prop}(C:∀l m s1,eh E (aZ Fm) l m I s1->h (f l m) s1):i h I:=
 L.sd _ (dd E e c b (λω=>0) (λω=> #[]),I) (dd E e c b (λω=>0) (λω=> #[])) I h oz k.good (mW _ _ N D y x J H) λT v s1 G s=>by
  obtain⟨Y,t,z,_,O,Q,r⟩:=G v.al v.sl;cases z;simp only[Prod.mk.injEq]at r;obtain⟨e1,e2,e3,A⟩:=r;rw[e1];exact C O Q s1 (iq s.rep s.UU rfl rfl k.hi k.hg (k.hl _ _) (k.hgl _ _) e2 e3 A)
end
end
variable {J:WF} {x:Wz}
section
noncomputable def ey(a:Nat)(b c:Wz):gi:=⟨.type "generator",none,.fields #[.int a 0,b,c],#[]⟩
noncomputable def yv:End->Wz
 | .susp a .. =>a
 |_=>.none
noncomputable def qY:End->Bool
 | .susp .. =>true
 |_=>false
noncomputable def gN(f c:Nat)(d e:Wz)(g:WI)(S:Seg):mw:=⟨⟨f,ey c d e,false⟩::S.UM.pre,(c,g)::S.UM.UR,λa b=>ey c d e::S.UM.post a b,λa b=>(S.res a b).genState::S.UM.UQ a b,S.UM.new,S.UM.UW,S.UM.UX,S.UM.US⟩
noncomputable def yB(a c:Nat)(d e:Wz)(g:WI)(S:Seg):Spec:=⟨.builtin "generator.__next__" ⟨[.ref a],[]⟩,S.dep+30,none,gN a c d e g S,λb f=>.ok (.ret (yv (S.res b f)))⟩
noncomputable def bb(b:WI)(S:Seg):Prop:=(b= .fresh S.code/\S.start=none/\S.fs=[])\/(∃a d e c,b= .suspended a d S.code e S.fs c/\S.start=some (a (.send .none)))
section
variable {P:WJ} {w:WG} {K:Nat->WA gi}
variable {c:WH->WF->Prop}
theorem dY{id:String}{B:Builtin}{a:Args}{A:WK}(k:plainId id=true)(j:entryFor table id=some B)
 (i:wpAny (model P w) A.in1 (B a) (λh b=>match h with| .done g=>c (.ok g) b| .again d=>d.quiet=true/\codeAny (model P w) A d c b) (λf b=>c (.error f) b) I):codeAny (model P w) A (.builtin id a) c I:=by
 refine codeAny_of_tree ?_;refine(?_:wpAny _ (A.under (.builtin id a)) (match entryFor table id with|some e=>e a|none=>unsupported ((withoutEnding? id "#data").getD id)) _ _ I)
 rw[j,Around.under_plainId k];exact i
variable {b:WI}
theorem j8{z:WI}(c:I.gens[a]?=some z):(I.setGen a b).gens[a]?=some b:=by
 have d:=(Array.getElem?_eq_some_iff.mp c).1;unfold Shared.setGen
 first
  |(simp[Array.getElem?_setIfInBounds,d];done)
  |(simp[Array.getElem?_set,d];done)
  |(simp[Array.getElem?_modify,c];done)
theorem eD{c:Nat}(d:c≠a):(I.setGen a b).gens[c]?=I.gens[c]?:=by
 unfold Shared.setGen
 first
  |(simp[Array.getElem?_setIfInBounds,Ne.symm d];done)
  |(simp[Array.getElem?_set,Ne.symm d];done)
  |(simp[Array.getElem?_modify,Ne.symm d];done)
theorem l3(g:AllBare I.gens)(i:b.bare=true):AllBare (I.setGen a b).gens:=by
 intro k h;obtain⟨c,d⟩:=Array.mem_iff_getElem?.mp h
 by_cases e:c=a
 ·subst e
  by_cases f:c<I.gens.size
  ·rw[j8 (z:=I.gens[c]) (by simp[f])]at d;exact Option.some.inj d▸i
  ·have:(I.setGen c b).gens[c]?=none:=by
    have j:(I.setGen c b).gens.size=I.gens.size:=by unfold Shared.setGen;simp
    simp[j,f]
   rw[this]at d;cases d
 ·rw[eD e]at d;exact g k (Array.mem_iff_getElem?.mpr ⟨c,d⟩)
theorem Cv{a:End}(b:a.quiet=true):a.genState.bare=true:=by
 cases a with
 |ret i=>rfl
 |susp j e g f c h d=>
  simp only[End.quiet]at b;simp only[End.genState];unfold GenState.bare
  first|exact b|(simp at b|-;exact b)|(simp[b])
variable {g:SL}
theorem Cw{S:Seg}{s1:WF}(L:∃i,(⟨S.fr,i,true⟩:aF)∈S.UM.pre)(k:d7 K (gN d a v x b S) (aS F) I)(R:(S.res y g).quiet=true)
 (h:eh S.UM (S.fr::aS F) y g (I.setGen a .running) s1):eh (gN d a v x b S) (aS F) y g I (s1.setGen a (S.res y g).genState):=by
 obtain⟨a0,T⟩:=L;have q:S.fr∈addrs S.UM.pre:=t8 (f:=aF.addr) T;have Q:(d::addrs S.UM.pre).Nodup:=k.nd;obtain⟨r,Z⟩:=List.nodup_cons.mp Q;have M:(a::eg S.UM.UR).Nodup:=k.U6;obtain⟨s,_⟩:=List.nodup_cons.mp M;have N:I.gens[a]?=some b:=k.UR (a,b) (.head _);have p:(I.setGen a .running).gens[a]?=some .running:=j8 N;have H:s1.gens[a]?=some .running:=h.step.gens _ _ p s;have t:=k.pre ⟨d,ey a v x,false⟩ (.head _);refine⟨⟨λl i m z=> ?_,λl i m=>h.step.U7 l i m,h.step.os,λD X V A=> ?_⟩, ?_,λc n=> ?_, ?_,λc n=> ?_,h.new,h.VK,λG Y=> ?_,h.Vj,h.US,l3 h.bare (Cv R)⟩
 ·rcases h.step.chg l i m (λc=>z (.tail _ c))with c|⟨c,P⟩
  ·exact .inl c
  ·rcases t6 c with e|e
   ·exact absurd (.tail _ (e▸q)) z
   ·exact .inr ⟨e,P⟩
 ·have w:D≠a:=λe=>A (e▸ .head _)
  rw[eD w];exact h.step.gens D X (by rw[eD w];exact V) λc=>A (.tail _ c)
 ·refine(?_:(S.UM.post y g).length+1=S.UM.pre.length+1);rw[h.len]
 ·have o:c∈(⟨d,ey a v x,false⟩,ey a v x)::S.UM.pre.zip (S.UM.post y g):=n;rcases t6 o with e|e
  ·subst e;have J:I.heap.get? d=some (ey a v x):=t.1;refine(?_:s1.heap.get? d=some (ey a v x));rcases h.step.chg d _ J r with c|⟨c,_⟩
   ·exact c
   ·rcases t6 c with e|e
    ·exact absurd (e▸q) r
    ·exact absurd e (t.2.2 rfl)
  ·exact h.post c e
 ·refine(?_:(S.UM.UQ y g).length+1=S.UM.UR.length+1);rw[h.Vi]
 ·have o:c∈((a,b),(S.res y g).genState)::S.UM.UR.zip (S.UM.UQ y g):=n;rcases t6 o with e|e
  ·subst e;exact j8 H
  ·have O:c.1.1∈eg S.UM.UR:=t8 (f:=Prod.fst) (List.of_mem_zip e).1;rw[eD (λ(e2:c.1.1=a)=>s (by rw[<-e2];exact O))]
   exact h.UQ c e
 ·obtain⟨W,j⟩:=h.UW G Y;have C:G.1≠a:=λe=>by rw[e,p]at j;cases j
  exact⟨by rw[eD C];exact W,by rw[eD C]at j;exact j⟩
noncomputable def oO(b:Nat)(d:GenResult):Sem PySem.Fin:=match d with
 | .yielded a=>ret a
 | .returned a=>do
  if a== .none then raiseNew (<-newExc (.type "StopIteration") [])
  rule "generator.return-value";throw (<-newExc (.type "StopIteration") [a])
 | .raised c=>Builtin.Generator.genLeft (.ref b) c
 | .running=>do rule "generator.already-executing";raiseError "ValueError" "generator already executing"
 | .justStarted=>do rule "generator.send-to-fresh";raiseError "TypeError" "can't send non-None value to a just-started generator"
 | .finished=>do raiseNew (<-newExc (.type "StopIteration") [])
theorem w9{f:Model}{c:PySem.Fin->WF->Prop}{E:Wz->WF->Prop}(h:I.heap.IsGen d a)(i:I.gens[a]?=some b)(j:b.status= .fresh\/b.status= .suspended)
 (k:∀{c:Unit->WF->Prop} {E:Wz->WF->Prop},c () I->wpAny f F roomToWake c E I)(g:wpAny f F (.resume a (.send .none) [] (oO d)) c E I):wpAny f F (Builtin.«generator.__next__» ⟨[.ref d],[]⟩) c E I:=by refine(?_:wpAny _ _ (Builtin.Generator.genWake (.ref d) (.send .none)) _ _ I);unfold Builtin.Generator.genWake;refine ci (wpAny_holding (wpAny_genNumber h (ci (wpAny_genState i ?_))));rcases j with e|e<;>rw[e]<;>exact ci (k g)
set_option maxHeartbeats 4000000 in
theorem lA{nm qn:Wz}{S:Seg}(X:∀i:Heap,gq K i->i.NoLimit)(ae:gb P w K S)(J:bb b S)(Z:∃N,(⟨S.fr,N,true⟩:aF)∈S.UM.pre/\ew N=true)(a8:∀l k,(S.res l k).quiet=true)
 {g:Nat}(ai:S.dep+30<=g)(x:MV F g ⟨none,none⟩)(R:eB K F I.heap)(A:gq K I.heap)(T:AllBare I.gens)(h:d7 K (gN d a nm qn b S) (aS F) I)
 (n:∀l k Q,eh (gN d a nm qn b S) (aS F) l k I Q->wpAny (model P w) F.in1 (oO d (S.res l k).result) (λn j=>∃o,n= .done o/\c (.ok o) j) (λe j=>c (.error e) j) Q):codeAny (model P w) F (.builtin "generator.__next__" ⟨[.ref d],[]⟩) c I:=by
  have aj:=x.dep;have ak:=x.U9;have a1:=(h.pre ⟨d,ey a nm qn,false⟩ (.head _)).1;have W:I.heap.get? d=some (ey a nm qn):=a1;have a0:I.heap.IsGen d a:=⟨_,nm,qn,W,rfl,rfl,rfl⟩;have D:I.gens[a]?=some b:=h.UR (a,b) (.head _);have e1:F.in1.frames=F.frames:=rfl;obtain⟨ac,v,a7⟩:=Z;have a2:(a::eg S.UM.UR).Nodup:=h.U6;obtain⟨a4,a3⟩:=List.nodup_cons.mp a2;have a6:(d::addrs S.UM.pre).Nodup:=h.nd;obtain⟨_,G⟩:=List.nodup_cons.mp a6;have Y:gz K S.fr I.heap:=by
    have:=h.pre _ (.tail _ v);obtain⟨k,i⟩:=this.1;exact⟨this.2.1,_,i,a7⟩
  have af:d7 K S.UM (S.fr::aS F.in1) (I.setGen a .running):=by
    refine⟨λr q=>⟨(h.pre r (.tail _ q)).1,(h.pre r (.tail _ q)).2.1,λt a5=> ?_⟩,G,λp H=> ?_,a3,h.UX⟩
    · rcases t6 a5 with e|e
      · have:=lw G q v e;rw[this]at t;cases t
      · exact(h.pre r (.tail _ q)).2.2 t (by rw[bx e1]at e;exact e)
    · have:p.1≠a:=λ(e:p.1=a)=>a4 (by rw[<-e];exact t8 (f:=Prod.fst) H)
      rw[eD this];exact h.UR p (.tail _ H)
  have ag:wpAny (model P w) F.in1 (Builtin.«generator.__next__» ⟨[.ref d],[]⟩) (λn j=>∃o,n= .done o/\c (.ok o) j) (λe j=>c (.error e) j) I:=by
    refine w9 a0 D ?_ (λi=>wpAny_roomToWake (X _ A) (by refine(?_:F.depth<1000);lia) i) ?_
    · rcases J with⟨m,_⟩|⟨L,M,O,C,m,_⟩
      · exact .inl (by rw[m];rfl)
      · exact .inr (by rw[m];rfl)
    · refine λy p ab=>wake_any PySem.Fin P w (c₀:=S.code) (t₀:=S.start.getD (denote table S.code)) (fs₀:=S.fs) D ?_ (λy=>y.In F.in1) (λω i=>i) ?_ y p ab
      · rcases J with⟨m,s,V⟩|⟨L,M,O,C,m,s⟩
        · exact .inl ⟨m,rfl,by rw[s];rfl,V⟩
        · exact .inr ⟨L,M,O,C,m,by rw[s];rfl⟩
      · refine ae F.in1 _ (I.setGen a .running) ⟨x.hd,by refine(?_:F.depth+_+_<=_);lia,by refine(?_:F.units+1+_+_<=_);lia⟩ (R.under e1) Y A (l3 T rfl) af λl k s1 z=> ?_
        rw[bx e1]at z;exact n l k _ (Cw ⟨ac,v⟩ h (a8 l k) z)
  refine dY (by decide+kernel) entry_gen_next ?_;refine wpAny_mono ag (λn j aa=> ?_) λω ω ah=>ah
  obtain⟨o,rfl,a9⟩:=aa;exact a9
theorem l4{S:Seg}(q:∀f:Heap,gq K f->f.NoLimit)(C:gb P w K S)(y:bb b S)(r:∃j,(⟨S.fr,j,true⟩:aF)∈S.UM.pre/\ew j=true)(s:∀c e,(S.res c e).quiet=true)(t:∀c e,qY (S.res c e)=true):
  ct P w K (yB d a v x b S):=by
 intro D R O z o n m A f;refine lA q C y r s (Nat.le_refl _) z o n m A λc e k l=> ?_
 have p:=f c e k l;have h:=t c e;have g:R (.ok (.ret (yv (S.res c e)))) k:=p;cases i:S.res c e with
 |ret N=>rw[i]at h;cases h
 |susp Q I L J G M H=>
  rw[i]at g;exact cj ⟨_,rfl,g⟩
noncomputable def eE(a:ug):gi:=⟨.type "tuple",none,.seq a 0,#[]⟩
noncomputable def qZ(a:Nat):gi:=⟨.type "StopIteration",none,.fields #[.ref a,.none,.none,.none,.bool false,.none],#[]⟩
noncomputable def pF(f c:Nat)(d e:Wz)(g:WI)(S:Seg):mw:=⟨⟨f,ey c d e,false⟩::S.UM.pre,(c,g)::S.UM.UR,λa b=>ey c d e::S.UM.post (cy (cy a)) b,λa b=>.finished::S.UM.UQ (cy (cy a)) b,λa b=>⟨a 1,qZ (a 0),false⟩::⟨a 0,eE #[],false⟩::S.UM.new (cy (cy a)) b,λa b=>S.UM.UW (cy (cy a)) b,S.UM.UX,λa b=>S.UM.US (cy (cy a)) b⟩
noncomputable def hy(a c:Nat)(d e:Wz)(f:WI)(S:Seg):Spec:=⟨.builtin "generator.__next__" ⟨[.ref a],[]⟩,S.dep+30,none,pF a c d e f S,λb ω=>.error (.ref (b 1))⟩
theorem gO{E E':mw}{al':AL}{a:WF}{c:aF}(b:eh E Z y g I J)(s:E'.pre=E.pre)(r:E'.UR=E.UR)(C:E'.post al' g=E.post y g)(v:E'.UQ al' g=E.UQ y g)
 (z:E'.new al' g=c::E.new y g)(t:E'.UW al' g=E.UW y g)(q:c.addr=J.heap.objs.size)(N:c.fr=false)(O:c.obj.isFreed=false)(Y:a={J with heap:=J.heap.push c.obj})(Q:∀d i,I.heap.get? d=some i->d<J.heap.objs.size)(l:E'.US al' g=E.US y g:=by rfl):eh E' Z al' g I a:=by
 subst Y;have m:∀d ob,J.heap.get? d=some ob->(J.heap.push c.obj).get? d=some ob:=λd ob k=>Heap.get?_push_of_some _ k
 have D:∀f:aF,aK J.heap f->aK (J.heap.push c.obj) f:=λf j=>by
  obtain⟨ob,k,_⟩:=j.get;exact j.same ((m _ _ k).trans k.symm)
 refine⟨⟨λd i l x=> ?_,λd i l=> ?_,b.step.os,λR X F w=>b.step.gens R X F (by rw[r]at w;exact w)⟩,by rw[C,s];exact b.len,λh n=> ?_,by rw[v,r];exact b.Vi,λh n=> ?_,λf j=> ?_, ?_,λW A=> ?_,by rw[t];exact b.Vj,λB M=>eM.imp (λa0 G ⟨H,i,e,o,p⟩=>⟨H,i,e,m _ _ o,p⟩) (b.US B (l▸M)),b.bare⟩
 ·rcases b.step.chg d i l (by rw[s]at x;exact x)with h|⟨h,P,G⟩
  ·exact .inl (m _ _ h)
  ·exact .inr ⟨h,P,m _ _ G⟩
 ·obtain⟨V,o,p⟩:=b.step.U7 d i l;exact⟨V,m _ _ o,p⟩
 ·rw[C,s]at n;exact D _ (b.post h n)
 ·rw[v,r]at n;exact b.UQ h n
 ·rw[z]at j;rcases t6 j with e|e
  ·subst e;refine⟨?_, ?_⟩
   ·unfold aK;rw[N,q];exact Heap.get?_push_size _ O
   ·cases h:I.heap.get? f.addr with
    |none=>rfl
    |some i=>have:=Q _ _ h;rw[q]at this;exact absurd this (Nat.lt_irrefl _)
  ·exact⟨D _ (b.new f e).1,(b.new f e).2⟩
 ·rw[z];refine List.nodup_cons.mpr ⟨λT=> ?_,b.VK⟩
  obtain⟨f,j,e⟩:=ua T;obtain⟨ob,k,_⟩:=(b.new f j).1.get;have:=Heap.lt_size k;have L:f.addr=c.addr:=e;rw[L,q]at this;exact absurd this (Nat.lt_irrefl _)
 ·rw[t]at A;exact b.UW W A
theorem j9{S:Seg}(G:∀i:Heap,gq K i->i.NoLimit)(L:gb P w K S)(I:bb b S)(H:∃h,(⟨S.fr,h,true⟩:aF)∈S.UM.pre/\ew h=true)(n:∀e f,S.res e f= .ret (.ok (.ret .none))):
  ct P w K (hy d a v x b S):=by
 intro s R J r C A z k i;refine lA (nm:=v) (qn:=x) G L I H (λe f=>by rw[n];rfl) (Nat.le_refl _) r C A z ⟨k.pre,k.nd,k.UR,k.U6,k.UX⟩ λe f g p=> ?_
 rw[n];refine(?_:wpAny _ _ (newExc (.type "StopIteration") []>>=_) _ _ _);refine ci ?_;simp only[newExc,newTuple];refine ci (wpAny_newObj_type ?_ (by size_fits));refine ci (m:=firstArgMember _ _) (wpAny_of_eq (a:=Value.none) (by first|rfl|(simp only[firstArgMember];rfl)) ?_);refine wpAny_newObj_type ?_ (by size_fits);simp only[raiseNew];refine ci (ci (wpAny_handled ?_));rw[show s.in1.handled=none from r.hd];refine wpAny_throw ?_;have q:∀j h,J.heap.get? j=some h->j<g.heap.objs.size:=λj h l=>by
  obtain⟨M,D,_⟩:=p.step.U7 j h l;exact Heap.lt_size D
 have o:∀(i:Heap) (h:gi),(i.push h).objs.size=i.objs.size+1:=λi h=>by first|exact Heap.size_push .. |simp[Heap.push]
 have t:=gO (E':=⟨(gN d a v x b S).pre,(gN d a v x b S).UR,λe f=>ey a v x::S.UM.post (cy (cy e)) f,λe f=>.finished::S.UM.UQ (cy (cy e)) f,λe f=>⟨e 0,eE #[],false⟩::S.UM.new (cy (cy e)) f,λe f=>S.UM.UW (cy (cy e)) f,S.UM.UX,λe f=>S.UM.US (cy (cy e)) f⟩)
  (al':=cons g.heap.objs.size (cons (g.heap.objs.size+1) e)) (c:=⟨g.heap.objs.size,eE #[],false⟩) p rfl rfl rfl (by refine(?_:_=(S.res e f).genState::_);rw[n];rfl) rfl rfl rfl rfl rfl rfl q
 have y:=gO (E':=pF d a v x b S) (al':=cons g.heap.objs.size (cons (g.heap.objs.size+1) e)) (c:=⟨g.heap.objs.size+1,qZ g.heap.objs.size,false⟩) t rfl rfl rfl rfl rfl rfl (by refine(?_:_=(g.heap.push (eE #[])).objs.size);rw[o]) rfl rfl rfl (λj h l=>by
  refine(?_:j<(g.heap.push (eE #[])).objs.size);rw[o];exact Nat.lt_succ_of_lt (q j h l))
 have:=i _ _ _ y;have e2:(g.heap.push (eE #[])).objs.size=g.heap.objs.size+1:=o _ _;refine(?_:R (.error (.ref (g.heap.push (eE #[])).objs.size)) _);rw[e2];exact this
end
end
structure WB where
 w:WG
 (b1 b2:Bool)
noncomputable def ft(b:WB)(a:String):Bool:=match PySem.W.S.strDecS a "special-get-raises" with
 | .isTrue _=>b.b1
 | .isFalse _=>match PySem.W.S.strDecS a "comprehension-iter-twice" with
  | .isTrue _=>b.b2
  | .isFalse _=>b.w.params.followText a
noncomputable def W2(a:WB):WG:=⟨a.w.draws,{a.w.params with followText:=ft a}⟩
noncomputable abbrev Pm(a:WB):WC:=(W2 a).params
theorem Cy(a:WG):W2 ⟨a,a.params.followText "special-get-raises",a.params.followText "comprehension-iter-twice"⟩=a:=by
 obtain⟨e,b⟩:=a;have f:ft ⟨⟨e,b⟩,b.followText "special-get-raises",b.followText "comprehension-iter-twice"⟩=b.followText:=by
  funext d;unfold ft;cases PySem.W.S.strDecS d "special-get-raises" with
  |isTrue c=>subst c;rfl
  |isFalse _=>
   cases PySem.W.S.strDecS d "comprehension-iter-twice" with
   |isTrue c=>subst c;rfl
   |isFalse _=>rfl
 unfold W2;rw[f]
noncomputable def walk:KT->Nat->Nat->Wy (Nat×gi)
 | .nil,_,_=>[]
 | .node f c e,a,b=>(match f with|some d=>[(b,d)]|none=>[])++(walk c (2*a) (a+b)++walk e (2*a) (2*a+b))
theorem ka{a:Heap}:∀(g:KT) (f c:Nat),(∀b∈walk g f c,a.get? b.1=some b.2)->KT.Holds a f c g
 | .nil,_,_,_=>trivial
 | .node l i k,f,c,d=>by
  refine⟨λj h=> ?_,ka i _ _ λb e=>d b ?_,ka k _ _ λb e=>d b ?_⟩
  ·exact d (c,j) (by unfold walk;rw[h];simp)
  ·unfold walk;exact uc _ (ue _ e)
  ·unfold walk;exact uc _ (uc _ e)
noncomputable def yC(a:WC):Wy (Nat×gi):=[(393,KV a),(693,Lm a),(972,MO a)]
noncomputable def yD(a:WC):Wy (Nat×gi):=walk (kt a) 1 0++yC a
noncomputable def tj(a:uh)(b:WF):Wy (WA gi):=a.map b.heap.get?
noncomputable def G5(c:uh)(b:SharedT):Wy (WA gi):=c.map λa=>match Nat.blt a b.n with
 |true=>(b.tree.get a).bind alive
 |false=>none
theorem ra{a:SharedT}:∀(d:Wy (Nat×gi)),G5 (d.map (·.1)) a=d.map (λc=>some c.2)->tj (d.map (·.1)) a.abs=d.map (λc=>some c.2)
 |[],_=>rfl
 |c::d,g=>by
  simp only[G5,List.map_cons,List.cons.injEq]at g;obtain⟨b,h⟩:=g;simp only[tj,List.map_cons,List.cons.injEq];refine⟨?_,ra d h⟩;cases e:Nat.blt c.1 a.n with
  |false=>rw[e]at b;cases b
  |true=>
   rw[e]at b;simp only at b;have i:c.1<a.n:=Nat.le_of_ble_eq_true e;cases f:a.tree.get c.1 with
   |none=>rw[f]at b;cases b
   |some j=>
    rw[f]at b;refine(?_:(absHeap a.tree a.n a.life).get? c.1=_);rw[abs_get i f];exact b
noncomputable def oP:uh:=MQ++[393,693,972]
theorem rg(a:WC):oP=(yD a).map (·.1):=by kernel_rfl
noncomputable def Ya(b:WG):Wy (WA gi):=(yD b.params).map λa=>some a.2
noncomputable def MW(b:WG)(c:OsState)(a:SharedT):=match staticsOk (importedModules PW.main.body) (boot_heap b.params) a.abs.heap && namesBound PW a.abs.heap && gensDone a.abs && laidKept (boot_heap b.params) a.abs.heap with
 |true=>some (PySem.W.Fast.tw4187177175401517315 QV pu (importedModules PW.main.body) (λω=>true) true a.abs,G5 oP a)
 |false=>none
theorem T4:∀(a:WG) (b:OsState),(Qj PW a 11 (some (.ref 6)) 20000 (yl a.params b) (topStub PW)).bind (MW a b)=some (openGood QV pu,Ya a):=by intro a b;kernel_rfl
theorem MX:LeftO PW QV pu (λω=>true) (tj oP) Ya 20000:=by
 refine Cd (ann:=some (.ref 6)) (by kernel_rfl) (by kernel_rfl) (λg=>by kernel_rfl) (λP=>by kernel_rfl) λc f=> ?_
 have d:=T4 c f;rw[<-ym]at d;obtain⟨sT,e,a⟩:=Option.bind_eq_some_iff.mp d;rw[e,Option.bind_some,wJ];unfold MW at a;unfold s6;simp only;revert a;cases staticsOk (importedModules PW.main.body) (boot_heap c.params) sT.abs.heap && namesBound PW sT.abs.heap && gensDone sT.abs && laidKept (boot_heap c.params) sT.abs.heap with
 |false=>intro b;cases b
 |true=>
  intro b;simp only[Option.some.injEq,Prod.mk.injEq]at b|-;refine⟨b.1, ?_⟩;have a:=b.2;unfold Ya at a|-;rw[rg c.params]at a|-;exact ra _ a
noncomputable def KB(b:WG)(a:Nat):WA gi:=(kt b.params).get a
theorem pG{b:WG}{a:WF}(e:tj oP a=Ya b):gq (KB b) a.heap/\∀c∈yC b.params,a.heap.get? c.1=some c.2:=by
 unfold Ya tj at e;rw[rg b.params,List.map_map]at e;have f:∀c∈yD b.params,a.heap.get? c.1=some c.2:=λc d=>List.map_inj_left.mp e c d
 refine⟨λh i g=> ?_,λc d=>f c (uc _ d)⟩
 exact kt_at (ka _ _ _ λc d=>f c (ue _ d)) g
variable {q r:Int} {L:ui}
section
open PySem.Calls
noncomputable def cm(b:ug)(a:Nat):gi:=⟨.type "list",none,.seq b a,#[]⟩
noncomputable def pl(b:Wy (Nat×gi)):Wy aF:=b.map λa=>⟨a.1,a.2,false⟩
noncomputable def kJ(a:Wy (Nat×gi)):mw:=⟨pl a,[],λω ω=>a.map (·.2),nn,nn,nn,[],nn⟩
noncomputable def fh(c:String)(b:ui)(d:Wy (Nat×gi))(e:(Nat->Nat)->Wz):Spec:=⟨.builtin c ⟨b,[]⟩,4,none,kJ d,λa ω=>uj (e a)⟩
noncomputable def Qn(a:Wy (Nat×gi))(c:gi):mw:=⟨pl a,[],λω ω=>a.map (·.2),nn,λb ω=>[⟨b 0,c,false⟩],nn,[],nn⟩
noncomputable def FP(c:String)(b:ui)(e:Wy (Nat×gi))(d:gi):Spec:=⟨.builtin c ⟨b,[]⟩,4,none,Qn e d,λa ω=>uj (.ref (a 0))⟩
section
variable {P:WJ} {w:WG} {K:Nat->WA gi}
theorem Step.toks{Z a b:Wy Addr}(e:WF)(f:Nat):Step Z a b e {e with toks:=f}:=⟨λω ω c ω=>.inl c,λω d c=>⟨d,c,.refl d⟩,rfl,λω ω c ω=>c⟩
theorem rh{a:Type}:∀(d:Wy a) (c:a×a),c∈d.zip d->c.1=c.2
 |[],c,b=>by cases b
 |y::d,c,b=>by
  rw[List.zip_cons_cons]at b;rcases t6 b with rfl|b
  ·rfl
  ·exact rh d c b
variable {b:Wy (Nat×gi)}
theorem yE{a:aF×gi}(c:a∈(pl b).zip (b.map (·.2))):a.1∈pl b/\a.2=a.1.obj/\a.1.fr=false:=by have f:=(List.of_mem_zip c).1;unfold pl at c;rw[List.zip_map]at c;obtain⟨d,g,e⟩:=ua c;have:=rh _ d g;subst e;exact⟨f,by refine(?_:d.2.2=d.1.2);rw[this],rfl⟩
variable {sl:SL}
theorem gA{s1:WF}{al:AL}(m:d7 K (kJ b) Z I)(f:AllBare I.gens)(l:∃e,s1={I with toks:=e}):eh (kJ b) Z al sl I s1:=by
 obtain⟨e,rfl⟩:=l;refine⟨Step.toks I e,by simp[kJ,pl],λa d=> ?_,rfl,λa d=>by simp[kJ]at d,λg c=>by simp[kJ]at c,by simp[kJ,addrs],λg c=>by simp[kJ]at c,by simp[kJ,eg],λB k=>by simp[kJ]at k,f⟩
 obtain⟨i,j,n⟩:=yE d;have:=(m.pre a.1 i).1;have h:(⟨a.1.addr,a.2,a.1.fr⟩:aF)=a.1:=by rw[j]
 rw[h];exact this
variable {pre:Wy (Nat×gi)}
theorem m1{o:gi}{fs:Wy Addr}{s s1:WF}(h:d7 K (kJ pre) fs s)(d:AllBare s.gens)(f:o.isFreed=false)(g:∃a,s1={s with heap:=s.heap.push o,toks:=a}):eh (Qn pre o) fs (λω=>s.heap.objs.size) sl s s1:=by
 obtain⟨a,rfl⟩:=g;have b:=gA (al:=λω=>0) (sl:=sl) (s1:={s with toks:=a}) h d ⟨a,rfl⟩
 exact gO (E':=Qn pre o) (al':=λω=>s.heap.objs.size) (c:=⟨s.heap.objs.size,o,false⟩) b rfl rfl rfl rfl rfl rfl rfl rfl f rfl λi o e=>Heap.lt_size e
theorem el(b:d7 K (kJ pre) Z I):∀a∈pre,I.heap.get? a.1=some a.2:=λa c=>(b.pre ⟨a.1,a.2,false⟩ (t8 (f:=λb:Nat×gi=>(⟨b.1,b.2,false⟩:aF)) c)).1
variable {c:(Nat->Nat)->Wz} {a:String}
theorem jV{B:Builtin}(z:plainId a=true)(y:entryFor table a=some B)
 (s:∀(d:WK) (e:WF) (k:Wz->WF->Prop) (E:Wz->WF->Prop),d.depth<=900->d.units<=9000->d.handled=none->gq K e.heap->(∀n∈b,e.heap.get? n.1=some n.2)->(∀g h,k (c g) {e with toks:=h})->
   wpAny (model P w) d (B ⟨L,[]⟩) (λl f=>∃j,l= .done (.ret j)/\k j f) E e):ct P w K (fh a L b c):=by
 intro d R e i I q p m t;refine codeAny_of_tree ?_;refine(?_:wpAny _ (d.under (.builtin a ⟨L,[]⟩)) (match entryFor table a with|some o=>o ⟨L,[]⟩|none=>unsupported ((withoutEnding? a "#data").getD a)) _ _ e)
 rw[y,Around.under_plainId z];have v:=i.dep;have D:=i.U9;have x:(fh a L b c).dep=4:=rfl;rw[x]at v D;refine wpAny_mono (s d.in1 e (λG f=>R (.ok (.ret G)) f) (λr f=>R (.error r) f) (by refine(?_:d.depth<=900);lia) (by refine(?_:d.units+1<=9000);lia) i.hd q (el m) λg h=> ?_) (λl f A=> ?_) λω ω H=>H
 ·exact t g (λω=> #[]) _ (gA m p ⟨h,rfl⟩)
 ·obtain⟨j,rfl,C⟩:=A;exact C
theorem vi{B:Builtin}{c:gi}(z:plainId a=true)(x:entryFor table a=some B)(y:c.isFreed=false)
 (r:∀(e:WK) (f:WF) (k:Wz->WF->Prop) (E:Wz->WF->Prop),e.depth<=900->e.units<=9000->e.handled=none->gq K f.heap->(∀m∈b,f.heap.get? m.1=some m.2)->(∀h,k (.ref f.heap.objs.size) {f with heap:=f.heap.push c,toks:=h})->
   wpAny (model P w) e (B ⟨L,[]⟩) (λl g=>∃j,l= .done (.ret j)/\k j g) E f):ct P w K (FP a L b c):=by
 intro e R f i I p o d s;refine codeAny_of_tree ?_;refine(?_:wpAny _ (e.under (.builtin a ⟨L,[]⟩)) (match entryFor table a with|some n=>n ⟨L,[]⟩|none=>unsupported ((withoutEnding? a "#data").getD a)) _ _ f)
 rw[x,Around.under_plainId z];have t:=i.dep;have D:=i.U9;have v:(FP a L b c).dep=4:=rfl;rw[v]at t D;refine wpAny_mono (r e.in1 f (λG g=>R (.ok (.ret G)) g) (λq g=>R (.error q) g) (by refine(?_:e.depth<=900);lia) (by refine(?_:e.units+1<=9000);lia) i.hd p (el ⟨d.pre,d.nd,d.UR,d.U6,d.UX⟩) λh=> ?_) (λl g A=> ?_) λω ω H=>H
 ·exact s _ (λω=> #[]) _ (m1 ⟨d.pre,d.nd,d.UR,d.U6,d.UX⟩ o y ⟨h,rfl⟩)
 ·obtain⟨j,rfl,C⟩:=A;exact C
theorem eU{B:Builtin}{m:Made}(o:plainId a=true)(l:entryFor table a=some B)(j:Gives (B ⟨L,[]⟩) m)
 (n:∀(g:Wz->WF->Prop) (b:WF),(∀d e,g (c d) {b with toks:=e})->m.post g b):ct P w K (fh a L [] c):=by
 intro f R b s r q i p k;refine codeAny_of_tree ?_;refine(?_:wpAny _ (f.under (.builtin a ⟨L,[]⟩)) (match entryFor table a with|some h=>h ⟨L,[]⟩|none=>unsupported ((withoutEnding? a "#data").getD a)) _ _ b)
 rw[l,Around.under_plainId o];exact j P w f R b (n _ _ λd e=>k d (λω=> #[]) _ (gA p i ⟨e,rfl⟩))
noncomputable def df:Wz->Nat
 | .int _ a=>a
 | .str _ a=>a
 | .bytes _ a=>a
 | .float _ a=>a
 |_=>0
noncomputable def tk(c:Code)(a:Nat):Nat:=df ((lW c)[a]?.getD .none)
noncomputable def ad(c:Code)(b:Nat):Nat:=match(lW c)[b]?.getD .none with
 | .ref a=>a
 |_=>0
noncomputable def eJ(c:uk)(b:Nat):Nat:=match(c[b]?.getD default).data with
 | .seq _ a=>a
 | .dict _ a=>a
 |_=>0
theorem i9{a c:Nat}(b:decide (r<q)=D):ct P w K (fh "int.__lt__" [.int r a,.int q c] [] λω=>.bool D):=
 eU (by decide+kernel) F.entry_int_lt (gives_int_lt r q a c) λf e d=>by rw[b];exact d (λω=>0) e.toks
theorem pH{a c:Nat}(g:q≠0):ct P w K (fh "int.__mod__" [.int r a,.int q c] [] λe=>.int (r.fmod q) (e 0)):=
 eU (m:= .int (r.fmod q)) (by decide+kernel) F.entry_int_mod (.of_wp λk j E b d f=>by
  have h:(q==0)=false:=by simpa using g
  show wpAny _ _ (do
   if q==0 then rule "int.mod.zero";raiseError "ZeroDivisionError" "integer modulo by zero"
   ret (<-mkInt (r.fmod q))) _ _ b
  simp only[h,Bool.false_eq_true,if_false,pure_bind];exact ci (wpAny_mkInt (cj ⟨_,rfl,f⟩))) λd b i=>i (λω=>b.toks) (b.toks+1)
theorem yF{a c:Nat}(e:IntMulOk r q):ct P w K (fh "int.__mul__" [.int r a,.int q c] [] λd=>.int (r*q) (d 0)):=
 eU (m:= .int (r*q)) (by decide+kernel) F.entry_int_mul (gives_int_mul r q a c e) λg b f=>f (λω=>b.toks) (b.toks+1)
theorem rj{a c:Nat}(g:q≠0)(i:q.natAbs<1073741824):ct P w K (fh "int.__floordiv__" [.int r a,.int q c] [] λe=>.int (r.fdiv q) (e 0)):=
 eU (m:= .int (r.fdiv q)) (by decide+kernel) F.entry_int_floordiv (.of_wp λl k E b d f=>by
  have h:(q==0)=false:=by simpa using g
  show wpAny _ _ (do
   if q==0 then rule "int.floordiv.zero";raiseError "ZeroDivisionError" "integer division or modulo by zero"
   Builtin.roomForPylong r q
   ret (<-mkInt (r.fdiv q))) _ _ b
  simp only[h,Bool.false_eq_true,if_false];exact ci (wpAny_roomForPylong (.inl (PyProof.noPylong_small i)) (ci (wpAny_mkInt (cj ⟨_,rfl,f⟩))))) λd b j=>j (λω=>b.toks) (b.toks+1)
theorem ja{l:Nat}{xs:ug}{ep:Nat}(g:xs.size<=2^24):ct P w K (fh "len" [.ref l] [(l,cm xs ep)] λb=>.int xs.size (b 0)):=
 jV (by decide+kernel) entry_len λe a f E ω ω ω ω c d=>by
  refine wpAny_len_body_list (items:=xs) ⟨_,c _ (.head _),rfl,ep,rfl⟩ (by lia) ?_;exact d (λω=>a.toks+1) (a.toks+1+1)
theorem dZ{c:Nat}{a:Nat}(f:0<=q)(g:q<2^63)(j:H[q.toNat]?=some v):
  ct P w K (fh "list.__getitem__" [.ref c,.int q a] [(c,cm H d)] λω=>v):=
 jV (by decide+kernel) entry_list_getitem λm b n E ω ω ω ω h i=>by
  have o:b.heap.IsList c H:=⟨_,h _ (.head _),rfl,d,rfl⟩;refine(?_:wpAny _ _ (Builtin.List.listSubscript? (.int q a)>>=_) _ _ b);refine ci (wpAny_listSubscript_int (fitsIndex_of f g) ?_);clear g;obtain⟨e,rfl⟩:=Int.eq_ofNat_of_zero_le f;have k:H[e]?=some v:=j;refine(?_:wpAny _ _ ((seqItemAt c e>>=λl=>pure (l.map (e, ·)))>>=_) _ _ b)
  refine ci (ci (wpAny_seqItemAt (h _ (.head _)) rfl (cj ?_)));rw[k];exact cj ⟨v,rfl,i (λω=>0) b.toks⟩
noncomputable def iU(a:Int):Int:=if a<0 then-a else a
theorem yG{a:Nat}:ct P w K (fh "int.__abs__" [.int q a] [] λf=>.int (iU q) (f 0)):=
 jV (by decide+kernel) entry_int_abs λg c h E ω ω ω ω ω e=>by
  refine(?_:wpAny _ _ (if q<0 then _ else _) _ _ c)
  by_cases d:q<0
  ·have b:=e (λω=>c.toks) (c.toks+1)
   unfold iU at b;rw[if_pos d]at b|-;exact ci (wpAny_mkInt (cj ⟨_,rfl,b⟩))
  ·have b:=e (λω=>a) c.toks
   unfold iU at b;rw[if_neg d]at b|-;exact cj ⟨_,rfl,b⟩
noncomputable def JQ(b c:Int)(d:Bool):TU:=λa ω ω=>fh "int.__lt__" [.int b (tk a 0),.int c (tk a 1)] [] λω=>.bool d
noncomputable def Cz(a b:Int):TU:=λc ω ω=>fh "int.__mod__" [.int a (tk c 0),.int b (tk c 1)] [] λd=>.int (a.fmod b) (d 0)
noncomputable def MY(a:Int):TU:=λc ω ω=>fh "int.__abs__" [.int a (tk c 0)] [] λb=>.int (iU a) (b 0)
noncomputable def Rb(a b:Int):TU:=λc ω ω=>fh "int.__mul__" [.int a (tk c 0),.int b (tk c 1)] [] λd=>.int (a*b) (d 0)
noncomputable def Rc(a b:Int):TU:=λc ω ω=>fh "int.__floordiv__" [.int a (tk c 0),.int b (tk c 1)] [] λd=>.int (a.fdiv b) (d 0)
noncomputable def MZ(b:ug):TU:=λa d ω=>fh "len" [.ref (ad a 0)] [(ad a 0,cm b (eJ d 0))] λc=>.int b.size (c 0)
noncomputable def pI(e:ug)(b:Int)(d:Wz):TU:=λa c ω=>fh "list.__getitem__" [.ref (ad a 0),.int b (tk a 1)] [(ad a 0,cm e (eJ c 0))] λω=>d
end
end
section
open PySem.Calls
noncomputable abbrev cl:=WD UInt8
theorem fN:typeLookup (.type "bytes") "__buffer__" =pure (some (.builtin "bytes.__buffer__")):=by rw[typeLookup_type,builtinLookup_eq_fast];kernel_rfl
theorem kc:typeLookup (.type "bytes") "__release_buffer__" =pure none:=by rw[typeLookup_type,builtinLookup_eq_fast];kernel_rfl
theorem em:typeLookup (.type "int") "__index__" =pure (some (.builtin "int.__index__")):=by rw[typeLookup_type,builtinLookup_eq_fast];kernel_rfl
theorem ir(b:cl)(c:Nat)(a:Str):specialOf (.bytes b c) a=typeLookup (.type "bytes") a:=rfl
theorem hY(b:Int)(c:Nat)(a:Str):specialOf (.int b c) a=typeLookup (.type "int") a:=rfl
theorem to(a:cl)(b:Nat):isInstance (.bytes a b) (.type "bytes")=pure true:=by refine(?_:isSubtype (.type "bytes") (.type "bytes")=pure true);exact F.sub_bytes_bytes
theorem m2(a:cl)(b:Nat):isInstance (.bytes a b) (.type "tuple")=pure false:=by refine(?_:isSubtype (.type "bytes") (.type "tuple")=pure false);exact F.sub_bytes_tuple
theorem m3(a:cl)(b:Nat):Builtin.Bytes.slotIsOwn (.bytes a b) "__buffer__" =pure true:=by unfold Builtin.Bytes.slotIsOwn;rw[ir,fN];refine(?_:(if(!"bytes.__buffer__".endsWith ("." ++ "__buffer__"))=true then(pure false:Sem Bool)else isInstance (.bytes a b) (.type ("bytes.__buffer__".dropRight ("__buffer__".length+1))))=pure true);rw[if_neg (by decide+kernel),show "bytes.__buffer__".dropRight ("__buffer__".length+1)= "bytes" by decide+kernel];exact to a b
theorem xa(a:cl)(b:Nat):Builtin.Bytes.ownRelease (.bytes a b)=pure false:=by unfold Builtin.Bytes.ownRelease Builtin.Bytes.slotIsOwn;rw[ir,kc];rfl
theorem fy(c:String)(a:cl)(d:Nat)(b:Bool):Builtin.Bytes.buffer? c (.bytes a d) b=pure (some a):=by unfold Builtin.Bytes.buffer?;rw[ir,fN,m3,xa];rfl
theorem mC(b:String)(a:cl)(c:Nat):Builtin.Bytes.bytesLike b (.bytes a c)=pure a:=by unfold Builtin.Bytes.bytesLike;rw[fy];rfl
theorem CA(b:String)(a:cl)(c:Nat):Builtin.Bytes.takeBufferQuiet? b (.bytes a c) 0=pure (some (a,none)):=by
 unfold Builtin.Bytes.takeBufferQuiet? Builtin.Bytes.takeBuffer?;rw[ir,fN,m3];refine(?_:(PySem.Sem.attempt (Builtin.Bytes.buffer? b (.bytes a c) _>>=λd=>pure (d.map (·,none)))>>=_)=_)
 rw[fy];rfl
theorem yH(a:Int)(b:Nat):Builtin.Bytes.bound? (some (.int a b))=pure (some a):=by unfold Builtin.Bytes.bound?;refine(?_:(specialOf (.int a b) "__index__" >>=_)=_);rw[hY,em];rfl
section
variable {P:WJ} {w:WG} {K:Nat->WA gi}
variable {a:String}
theorem yI{B:Builtin}{d:Wz}(g:plainId a=true)(f:entryFor table a=some B)(e:B ⟨L,[]⟩=ret d):ct P w K (fh a L [] λω=>d):=
 eU (m:= .val d) g f (.of_wp λk j E b c h=>by
  rw[e];exact cj ⟨_,rfl,h⟩) λc b i=>i (λω=>0) b.toks
theorem tu:entryFor table "bytes.find" =some Builtin.«bytes.find»:=entryFor_of_tree (by kernel_rfl)
theorem pJ:entryFor table "bytes.rindex" =some Builtin.«bytes.rindex»:=entryFor_of_tree (by kernel_rfl)
theorem CB(d:String)(a c:cl)(e b:Nat):Builtin.Bytes.searchArgs .bytes d ⟨[.bytes a e,.bytes c b],[]⟩=pure (a,c,if(a.size:Int)-0<c.size then none else some (0,a.size)):=by unfold Builtin.Bytes.searchArgs;refine(?_:(Builtin.Bytes.buffer? _ (.bytes c b) _>>=_)=_);rw[fy];refine(?_:(pure (a,c,if(min (a.size:Int) a.size)-0<c.size then none else some ((0:Int).toNat,(min (a.size:Int) a.size).toNat)):Sem _)=_);rw[Int.min_self];rfl
theorem CC(g:String)(b c:cl)(e d:Nat)(a:Int)(f:Nat)(j:0<=a):Builtin.Bytes.searchArgs .bytes g ⟨[.bytes b e,.bytes c d,.int a f],[]⟩=pure (b,c,if(b.size:Int)-a<c.size then none else some (a.toNat,b.size)):=by
 unfold Builtin.Bytes.searchArgs;have i:∀id,selfAndSome id g 1 3 ⟨[.bytes b e,.bytes c d,.int a f],[]⟩=pure (.bytes b e,[.bytes c d,.int a f]):=λω=>rfl
 simp only[i,pure_bind,List.getElem?_cons_succ,List.getElem?_cons_zero,yH];refine(?_:(Builtin.Bytes.buffer? _ (.bytes c d) _>>=_)=_);rw[fy];refine(?_:(pure (b,c,if(min (b.size:Int) b.size)-(if a<0 then max 0 (a+b.size)else a)<c.size then none else some ((if a<0 then max 0 (a+b.size)else a).toNat,(min (b.size:Int) b.size).toNat)):Sem _)=_);have h:(if a<0 then max 0 (a+b.size)else a)=a:=if_neg (by lia);rw[Int.min_self,h];rfl
noncomputable def oQ(a c:cl)(b:Nat):WA Nat:=if(a.size:Int)-b<c.size then none else Builtin.Bytes.find? a c b a.size
noncomputable def M0:WA Nat->Int
 |some a=>a
 |none=> -1
variable {k c:cl}
theorem G6(b:0<=q):((if(k.size:Int)-q<c.size then none else some (q.toNat,k.size)).bind λ(a:Nat×Nat)=>Builtin.Bytes.find? k c a.1 a.2)=oQ k c q.toNat:=by unfold oQ;rw[Int.toNat_of_nonneg b];split<;>rfl
theorem fO{a:Nat}{b:WA Nat}(g:0<=q)(l:oQ k c q.toNat=b):ct P w K (fh "bytes.find" [.bytes k a,.bytes c e,.int q d] [] λj=>.int (M0 b) (j 0)):=
 eU (m:= .int (M0 b)) (by decide+kernel) tu (.of_wp λr p E f i h=>by
  refine(?_:wpAny _ _ (Builtin.Bytes.searchArgs _ _ _>>=_) _ _ _);rw[CC _ _ _ _ _ _ _ g];refine(?_:wpAny _ _ (match((if(k.size:Int)-q<c.size then none else some (q.toNat,k.size)).bind λ(q:Nat×Nat)=>Builtin.Bytes.find? k c q.1 q.2)with
   |some n=>retInt n
   |none=>_) _ _ _)
  rw[G6 g,l];cases b with
  |none=>exact ci (wpAny_rule (ci (wpAny_mkInt (cj ⟨_,rfl,h⟩))))
  |some b=>exact ci (wpAny_mkInt (cj ⟨_,rfl,h⟩))) λi f o=>o (λω=>f.toks) (f.toks+1)
variable {b:Nat}
theorem xb{a:Nat}(i:(if(k.size:Int)-0<c.size then none else Builtin.Bytes.rfind? k c 0 k.size)=some b):ct P w K (fh "bytes.rindex" [.bytes k a,.bytes c e] [] λh=>.int b (h 0)):=
 eU (m:= .int b) (by decide+kernel) pJ (.of_wp λq p E f g l=>by
  refine(?_:wpAny _ _ (Builtin.Bytes.searchArgs _ _ _>>=_) _ _ _);rw[CB];have j:((if(k.size:Int)-0<c.size then none else some (0,k.size)).bind λ(d:Nat×Nat)=>Builtin.Bytes.rfind? k c d.1 d.2)=some b:=by
   rw[<-i];split<;>rfl
  refine(?_:wpAny _ _ (match((if(k.size:Int)-0<c.size then none else some (0,k.size)).bind λ(d:Nat×Nat)=>Builtin.Bytes.rfind? k c d.1 d.2)with
   |some n=>retInt n
   |none=>_) _ _ _)
  rw[j];exact ci (wpAny_mkInt (cj ⟨_,rfl,l⟩))) λg f o=>o (λω=>f.toks) (f.toks+1)
theorem yJ:entryFor table "bytes.startswith" =some Builtin.«bytes.startswith»:=entryFor_of_tree (by kernel_rfl)
theorem yK:entryFor table "bytes.endswith" =some Builtin.«bytes.endswith»:=entryFor_of_tree (by kernel_rfl)
noncomputable def aB(a c:cl):Bool:=if(a.size:Int)-0<c.size then false else a.extract 0 (0+c.size)==c
noncomputable def oR(a c:cl):Bool:=if(a.size:Int)-0<c.size then false else a.extract (a.size-c.size) a.size==c
variable {d:Bool}
theorem hA{a:Nat}(b:aB k c=d):ct P w K (fh "bytes.startswith" [.bytes k a,.bytes c e] [] λω=>.bool d):=
 yI (by decide+kernel) yJ (by
  refine(?_:Builtin.Bytes.tailMatchM _ _ _ _=_);unfold Builtin.Bytes.tailMatchM;have f:∀id,selfAndSome id "startswith" 1 3 ⟨[.bytes k a,.bytes c e],[]⟩=pure (.bytes k a,[.bytes c e]):=λω=>rfl
  have g:Builtin.Bytes.bound? none=pure none:=rfl;have h:Builtin.Bytes.payload (.bytes k a)=pure k:=rfl;simp only[f,pure_bind,List.getElem?_cons_succ,List.getElem?_cons_zero,List.getElem?_nil,g,h,List.headD_cons,m2,fy,<-b];refine(?_:(ret (.bool (if(min (k.size:Int) k.size)-0<c.size then false else k.extract 0 (0+c.size)==c)):Sem _)=_);rw[Int.min_self];rfl)
theorem M1{a:Nat}(b:oR k c=d):ct P w K (fh "bytes.endswith" [.bytes k a,.bytes c e] [] λω=>.bool d):=
 yI (by decide+kernel) yK (by
  refine(?_:Builtin.Bytes.tailMatchM _ _ _ _=_);unfold Builtin.Bytes.tailMatchM;have f:∀id,selfAndSome id "endswith" 1 3 ⟨[.bytes k a,.bytes c e],[]⟩=pure (.bytes k a,[.bytes c e]):=λω=>rfl
  have g:Builtin.Bytes.bound? none=pure none:=rfl;have h:Builtin.Bytes.payload (.bytes k a)=pure k:=rfl;simp only[f,pure_bind,List.getElem?_cons_succ,List.getElem?_cons_zero,List.getElem?_nil,g,h,List.headD_cons,m2,fy,<-b];refine(?_:(ret (.bool (if(min (k.size:Int) k.size)-0<c.size then false else k.extract ((min (k.size:Int) k.size).toNat-c.size) (min (k.size:Int) k.size).toNat==c)):Sem _)=_);rw[Int.min_self];rfl)
theorem aD{a:Nat}{d:Int}(f:(k.size:Int)=d)(i:k.size<=1099511627776):ct P w K (fh "len" [.bytes k a] [] λc=>.int d (c 0)):=
 jV (by decide+kernel) entry_len λg b h E ω ω ω ω ω e=>by
  refine wpAny_len_body (typeIs_bytes b k a) FB.slot_bytes_len FB.entry_bytes_len (FB.args_bytes_len_1 _) (gives_bytes_len k a) (by lia) (by lia) ?_;rw[f];exact e (λω=>b.toks+1) (b.toks+1+1)
theorem iu{a:Nat}{c:UInt8}(g:0<=r)(l:r<2^63)(b:k[r.toNat]?=some c):ct P w K (fh "bytes.__getitem__" [.bytes k a,.int r e] [] λf=>.int c.toNat (f 0)):=
 eU (m:= .int c.toNat) (by decide+kernel) FB.entry_bytes_getitem (gives_bytes_getitem k r a e c (by simp only[Builtin.Bytes.fitsIndex,Bool.and_eq_true,decide_eq_true_eq];lia) (by
  have n:r.toNat<k.size:=by
   rcases Nat.lt_or_ge r.toNat k.size with q|q
   ·exact q
   ·rw[Array.getElem?_eq_none q]at b;cases b
  have:seqIndex? r k.size=some r.toNat:=by
   have i:¬r<0:=by lia
   have h:r<(k.size:Int):=by lia
   simp[seqIndex?,i,g,h]
  rw[this];exact b)) λj d q=>q (λω=>d.toks) (d.toks+1)
theorem lB{a:Nat}(b:(k.toList==c.toList)=d):ct P w K (fh "bytes.__eq__" [.bytes k a,.bytes c e] [] λω=>.bool d):=
 eU (by decide+kernel) FB.entry_bytes_eq (gives_bytes_eq k c a e) λh g f=>by rw[b];exact f (λω=>0) g.toks
theorem kd{a:Nat}(b:(k.toList !=c.toList)=d):ct P w K (fh "bytes.__ne__" [.bytes k a,.bytes c e] [] λω=>.bool d):=
 eU (by decide+kernel) FB.entry_bytes_ne (gives_bytes_ne k c a e) λh g f=>by rw[b];exact f (λω=>0) g.toks
theorem G7{B:Builtin}{d:cl}(g:plainId a=true)(f:entryFor table a=some B)(l:d.size<=16777216)(e:B ⟨L,[]⟩=(mkBytes d>>=λi=>ret i)):ct P w K (fh a L [] λc=>.bytes d (c 0)):=
 jV g f λj b k E ω ω ω ω ω h=>by
  rw[e];exact ci (wpAny_mkBytes (cj ⟨_,rfl,h (λω=>b.toks) (b.toks+1)⟩) (by unfold sizeLine;lia))
theorem jb(c:b<=16777216):¬Builtin.Bytes.tooLong b=true:=by
 unfold Builtin.Bytes.tooLong sizeLine;intro a;have:b>2^24:=by simpa using a
 lia
theorem tz:entryFor table "bytes.__mul__" =some Builtin.«bytes.__mul__»:=entryFor_of_tree (by kernel_rfl)
theorem CD{a:Nat}{d:cl}(m:Builtin.Bytes.repeated k b=d)(j:b≠1)(c:k.size≠0)(q:k.size*b<=16777216)(r:d.size=k.size*b):ct P w K (fh "bytes.__mul__" [.bytes k a,.int b e] [] λf=>.bytes d (f 0)):=
 G7 (by decide+kernel) tz (by lia) (by
  have p:b<=16777216:=by
   have:=Nat.le_mul_of_pos_left b (Nat.pos_of_ne_zero c);lia
  have i:Builtin.Bytes.fitsIndex (b:Int)=true:=by simp only[Builtin.Bytes.fitsIndex,Bool.and_eq_true,decide_eq_true_eq];lia
  have g:Builtin.Bytes.repeatArgs .bytes "__mul__" ⟨[.bytes k a,.int b e],[]⟩=pure (.bytes k a,(b:Int)):=by
   have h:asIndex (.int (b:Int) e)=pure (b:Int):=rfl;unfold Builtin.Bytes.repeatArgs;simp only[h,pure_bind,i];rfl
  refine(?_:(Builtin.Bytes.repeatArgs .bytes "__mul__" ⟨[.bytes k a,.int b e],[]⟩>>=_)=_);rw[g];have l:k.size*b≠k.size:=λn=>j (Nat.eq_of_mul_eq_mul_left (Nat.pos_of_ne_zero c) (by rw[n,Nat.mul_one]))
  refine(?_:(if k.size*((b:Int).toNat)>=2^63 then _ else if(k.size*((b:Int).toNat)==k.size)=true then _ else if Builtin.Bytes.tooLong (k.size*((b:Int).toNat))=true then _ else(mkBytes (Builtin.Bytes.repeated k ((b:Int).toNat))>>=λo=>ret o))=_)
  rw[Int.toNat_natCast,if_neg (by lia),if_neg (by simpa using l),if_neg (jb (by lia)),m])
theorem tA:entryFor table "bytes.__add__" =some Builtin.«bytes.__add__»:=FB.entry_bytes_add
theorem yL(b:String)(a:cl)(c:Nat):Builtin.Bytes.bufferQuiet? b (.bytes a c)=pure (some a):=by unfold Builtin.Bytes.bufferQuiet?;rw[fy];rfl
theorem CE{d:cl}{a:Nat}(b:k++c=d)(n:d.size<=16777216):ct P w K (fh "bytes.__add__" [.bytes k a,.bytes c e] [] λj=>.bytes d (j 0)):=
 jV (by decide+kernel) tA λl f m E ω ω ω ω ω i=>by
  have o:d.size=k.size+c.size:=by rw[<-b,Array.size_append]
  refine(?_:wpAny _ _ (Builtin.Bytes.buffer? "bytes.__add__" (.bytes k a)>>=_) _ _ _);rw[fy,pure_bind];refine(?_:wpAny _ _ (Builtin.Bytes.bufferQuiet? "bytes.__add__" (.bytes c e)>>=_) _ _ _);rw[yL,pure_bind];refine(?_:wpAny _ _ (if k.isEmpty=true then _ else _) _ _ _)
  by_cases g:k.isEmpty=true
  ·rw[if_pos g];have:d=c:=by
    have:k= #[]:=Array.isEmpty_iff.mp g;rw[<-b,this];simp
   subst this;exact ci (cj (ci (wpAny_rule (cj ⟨_,rfl,i (λω=>e) f.toks⟩))))
  ·rw[if_neg g];refine(?_:wpAny _ _ (if c.isEmpty=true then _ else _) _ _ _)
   by_cases h:c.isEmpty=true
   ·rw[if_pos h];have:d=k:=by
     have:c= #[]:=Array.isEmpty_iff.mp h;rw[<-b,this];simp
    subst this;exact ci (cj (ci (wpAny_rule (cj ⟨_,rfl,i (λω=>a) f.toks⟩))))
   ·rw[if_neg h];refine(?_:wpAny _ _ (if Builtin.Bytes.tooLong (k.size+c.size)=true then _ else _) _ _ _);rw[if_neg (jb (by lia)),b];exact ci (wpAny_mkBytes (cj ⟨_,rfl,i (λω=>f.toks) (f.toks+1)⟩) (by unfold sizeLine;lia))
end
end
variable {k l:cl}
section
open PySem.Calls
noncomputable def gB(b a:Wz):gi:=⟨.type "slice",none,.fields #[b,a,.none],#[]⟩
inductive FQ:Wz->Prop where
 |none:FQ .none
 |int (i:Int) (t:Nat):FQ (.int i t)
noncomputable def eW(d:Wz)(b c:Int):Int:=match d with
 | .int a _=>max 0 (min (if a<0 then a+b else a) b)
 |_=>c
theorem hZ:typeLookup (.type "slice") "__index__" =pure none:=by rw[typeLookup_type,builtinLookup_eq_fast];kernel_rfl
theorem tB:entryFor table "bytes.__getitem__" =some Builtin.«bytes.__getitem__»:=FB.entry_bytes_getitem
noncomputable def G8:Wz->Wz
 | .int a _=>rawInt a
 |v=>v
theorem xc(c:cl)(a b:Nat):Builtin.Bytes.sliced c a b 1=c.extract a b:=by unfold Builtin.Bytes.sliced;have:=sliceRange_one a b;rw[this,pick_run];apply Array.ext';simp[Array.toList_extract,List.extract_eq_drop_take]
section
variable {P:WJ} {w:WG} {K:Nat->WA gi}
variable {a:Wz->WF->Prop} {b:Model}
theorem vj{c:String}(e:FQ v){E:Wz->WF->Prop}(f:a (G8 v) I):
  wpAny b F (if(v== .none)=true then pure .none else(specialOf v "__index__" >>=λg=>if g.isNone=true then(rule c>>=λω=>(raiseError "TypeError" "slice indices must be integers or None or have an __index__ method" :Sem Unit)>>=λω=>asIndex v>>=λd=>pure (rawInt d))else(asIndex v>>=λd=>pure (rawInt d)))) a E I:=by
 cases e with
 |none=>exact cj f
 |int d h=>
  rw[if_neg (by intro e;cases e),hY,em];exact cj f
theorem iw(c:FQ x)(b:FQ v)(a:Nat):sliceIndices (G8 x) (G8 v) .none a=pure (eW x a 0,eW v a a,1):=by cases c<;>cases b<;>rfl
theorem aP{a:Nat}(b:a<2):a=0\/a=1:=by lia
variable {c:Prop} {e:Type}
theorem bk{a:e->WF->Prop}{E:Wz->WF->Prop}{_:Decidable c}{d f:Sem e}(g:¬c)(h:wpAny b F f a E I):wpAny b F (if c then d else f) a E I:=(if_neg g).symm▸h
theorem gY{a:e->WF->Prop}{E:Wz->WF->Prop}{_:Decidable c}{d f:Sem e}(g:c)(h:wpAny b F d a E I):wpAny b F (if c then d else f) a E I:=(if_pos g).symm▸h
theorem gZ{E:Wz->WF->Prop}(c:k=l)(e:l.size<=16777216)(d:a (.bytes l I.toks) {I with toks:=I.toks+1}):wpAny b F (mkBytes k) a E I:=by subst c;exact wpAny_mkBytes d (by unfold sizeLine;lia)
theorem bS{n:Nat}(a:FQ v)(b:0<=q):∃c:Nat,eW v n q=c:=by
 cases a with
 |none=>exact Int.eq_ofNat_of_zero_le b
 |int d e=>exact Int.eq_ofNat_of_zero_le (Int.le_max_left ..)
theorem yM{a:Nat}(o:FQ x)(j:FQ v)(b:k.extract (eW x k.size 0).toNat (eW v k.size k.size).toNat=l)(C:k.size<=16777216):
  ct P w K (fh "bytes.__getitem__" [.bytes k d,.ref a] [(a,gB x v)] λr=>.bytes l (r 0)):=
 jV (by decide+kernel) tB λD f G E ω ω ω ω z q=>by
  have c:f.heap.get? a=some (gB x v):=z _ (.head _);refine(?_:wpAny _ _ (Builtin.Bytes.subscript? (.ref a)>>=_) _ _ f);refine ci (ci (wpAny_specialOf (T:= "slice") ⟨_,c,rfl⟩ hZ (cj (ci (m:=typeOf (.ref a)) (wpAny_typeOf (T:= "slice") ⟨_,c,rfl⟩ ?_)))));rw[if_neg (by decide+kernel)];refine ci (m:=Builtin.Bytes.sliceParts (.ref a)) ?_;unfold Builtin.Bytes.sliceParts;refine ci (wpAny_field c rfl rfl (ci (cj ?_)));rw[if_neg (by intro y;cases y)];refine ci (wpAny_field (i:=0) c rfl rfl (ci (vj o (ci (wpAny_field (i:=1) c rfl rfl (ci (vj j (cj ?_))))))));obtain⟨g,s⟩:=bS (n:=k.size) o (Int.le_refl 0);obtain⟨h,t⟩:=bS (n:=k.size) j (Int.natCast_nonneg k.size);have p:=iw o j k.size;rw[s,t]at p b;have b:k.extract g h=l:=b;refine ci (wpAny_of_eq p ?_);refine(?_:wpAny _ _ (if((g:Int)==0 &&(1:Int)==1 &&(h:Int)==k.size && !k.isEmpty)=true then _ else _) _ _ _)
  by_cases e:((g:Int)==0 &&(1:Int)==1 &&(h:Int)==k.size && !k.isEmpty)=true
  ·refine gY e ?_;have A:l=k:=by
    simp only[Bool.and_eq_true,beq_iff_eq]at e;obtain rfl:g=0:=Int.ofNat.inj e.1.1.1;obtain rfl:h=k.size:=Int.ofNat.inj e.1.2;rw[<-b];simp
   subst A;exact ci (cj (ci (wpAny_rule (cj ⟨_,rfl,q (λω=>d) f.toks⟩))))
  ·refine bk e (ci (gZ ((xc k g h).trans b) ?_ (cj ⟨_,rfl,q (λω=>f.toks) (f.toks+1)⟩)))
   subst b;rw[Array.size_extract];exact Nat.le_trans (Nat.sub_le ..) (Nat.le_trans (Nat.min_le_right ..) C)
end
end
variable {n o:cl} {A:Wy cl}
section
open PySem.Calls
noncomputable def d3:Wy cl->(Nat->Nat)->ui
 |[],_=>[]
 |b::c,a=>.bytes b (a 0)::d3 c (cy a)
theorem d8:∀(a:Wy cl) (b:Nat->Nat),(d3 a b).length=a.length
 |[],_=>rfl
 |_::a,b=>congrArg (· +1) (d8 a (cy b))
theorem kK:∀(a:Wy cl) (c:Nat->Nat) (d:Nat),(d3 a c)[d]?=(a[d]?).map λb=>.bytes b (c d)
 |[],_,_=>by simp[d3]
 |b::a,c,0=>by simp[d3]
 |b::a,c,d+1=>by
  simp only[d3,List.getElem?_cons_succ,kK a (cy c) d];rfl
noncomputable def G9(b:Wy (Nat×gi))(c:AL->gi):mw:=⟨pl b,[],λω ω=>b.map (·.2),nn,λa ω=>[⟨a 0,c (cy a),false⟩],nn,[],nn⟩
noncomputable def rk(c:String)(b:ui)(e:Wy (Nat×gi))(d:AL->gi):Spec:=⟨.builtin c ⟨b,[]⟩,4,none,G9 e d,λa ω=>uj (.ref (a 0))⟩
section
variable {P:WJ} {w:WG} {K:Nat->WA gi}
variable {a:AL->gi} {d:Wy (Nat×gi)}
theorem CF{b:AL}{s1:WF}{e:SL}(l:d7 K (kJ d) Z J)(h:AllBare J.gens)(j:(a b).isFreed=false)(k:∃f,s1={J with heap:=J.heap.push (a b),toks:=f}):eh (G9 d a) Z (cons J.heap.objs.size b) e J s1:=by
 obtain⟨f,rfl⟩:=k;have g:=gA (al:=λω=>0) (sl:=e) (s1:={J with toks:=f}) l h ⟨f,rfl⟩
 exact gO (E':=G9 d a) (al':=cons J.heap.objs.size b) (c:=⟨J.heap.objs.size,a b,false⟩) g rfl rfl rfl rfl rfl rfl rfl rfl j rfl λm a i=>Heap.lt_size i
variable {b:String}
theorem tC{B:Builtin}(A:plainId b=true)(y:entryFor table b=some B)(z:∀h,(a h).isFreed=false)
 (s:∀(e:WK) (f:WF) (l:Wz->WF->Prop) (E:Wz->WF->Prop),e.depth<=900->e.units<=9000->e.handled=none->gq K f.heap->(∀n∈d,f.heap.get? n.1=some n.2)->(∀h i,l (.ref f.heap.objs.size) {f with heap:=f.heap.push (a h),toks:=i})->
   wpAny (model P w) e (B ⟨L,[]⟩) (λm g=>∃k,m= .done (.ret k)/\l k g) E f):ct P w K (rk b L d a):=by
 intro e R f j J q p c t;refine codeAny_of_tree ?_;refine(?_:wpAny _ (e.under (.builtin b ⟨L,[]⟩)) (match entryFor table b with|some o=>o ⟨L,[]⟩|none=>unsupported ((withoutEnding? b "#data").getD b)) _ _ f)
 rw[y,Around.under_plainId A];have v:=j.dep;have G:=j.U9;have x:(rk b L d a).dep=4:=rfl;rw[x]at v G;refine wpAny_mono (s e.in1 f (λH g=>R (.ok (.ret H)) g) (λr g=>R (.error r) g) (by refine(?_:e.depth<=900);lia) (by refine(?_:e.units+1<=9000);lia) j.hd q (el ⟨c.pre,c.nd,c.UR,c.U6,c.UX⟩) λh i=> ?_) (λm g C=> ?_) λω ω I=>I
 ·exact t _ (λω=> #[]) _ (CF ⟨c.pre,c.nd,c.UR,c.U6,c.UX⟩ p (z h) ⟨i,rfl⟩)
 ·obtain⟨k,rfl,D⟩:=C;exact D
theorem tD:entryFor table "bytes.replace" =some Builtin.«bytes.replace»:=entryFor_of_tree (by kernel_rfl)
noncomputable def jc(a b c:cl):cl:=Builtin.Bytes.joined c (Builtin.Bytes.between a b.size (Builtin.Bytes.occurrences a b 0 a.size))
theorem l5(a:cl)(b:Nat):Builtin.Bytes.between a b []=[a]:=by unfold Builtin.Bytes.between;simp
theorem m4(b a:cl):Builtin.Bytes.joined b [a]=a:=by unfold Builtin.Bytes.joined;simp
theorem bm{d:Model}{e:cl->WF->Prop}{E:Wz->WF->Prop}{a:Nat}(c:e k J):wpAny d F (Builtin.Bytes.bytesLike b (.bytes k a)) e E J:=(mC b k a).symm▸cj c
theorem CG{a d:Nat}(i:l.isEmpty=false)(g:jc k l o=n)(p:k.size+(Builtin.Bytes.occurrences k l 0 k.size).length*o.size<=16777216)(q:n.size<=16777216):
  ct P w K (fh "bytes.replace" [.bytes k a,.bytes l c,.bytes o d] [] λh=>.bytes n (h 0)):=
 jV (by decide+kernel) tD λr e s E ω ω ω ω ω f=>by
  refine(?_:wpAny _ _ (Builtin.Bytes.replaceM .bytes _) _ _ _);unfold Builtin.Bytes.replaceM;refine ci (m:=selfAndSome _ "replace" 2 3 ⟨[.bytes k a,.bytes l c,.bytes o d],[]⟩) (cj (ci (bm (ci (bm (ci (cj (ci (bm (ci (bm (ci (m:=Builtin.Bytes.payload (.bytes k a)) (cj ?_)))))))))))));refine(?_:wpAny _ _ (if((if l.isEmpty=true then List.range (k.size+1)else Builtin.Bytes.occurrences k l 0 k.size).isEmpty||(l.isEmpty && o.isEmpty))=true then _ else _) _ _ _);rw[i]
  by_cases b:(Builtin.Bytes.occurrences k l 0 k.size).isEmpty=true
  ·refine gY (by rw[if_neg Bool.false_ne_true,b];rfl) ?_;have j:n=k:=by
    rw[<-g];unfold jc;rw[List.isEmpty_iff.mp b,l5,m4]
   subst j;exact ci (wpAny_rule (ci (cj (cj ⟨_,rfl,f (λω=>a) e.toks⟩))))
  ·refine bk (by rw[if_neg Bool.false_ne_true];simpa using b) (bk (jb p) (ci (gZ g q (cj ⟨_,rfl,f (λω=>e.toks) (e.toks+1)⟩))))
theorem m5{d:Model}{F:WK}{E:Wz->WF->Prop}:∀(b:Wy cl) (a:WF) (c:ui->WF->Prop),(∀e∈b,e.size<=16777216)->(∀f h,c (d3 b f) {a with toks:=h})->wpAny d F (b.mapM Builtin.Bytes.Kind.bytes.new) c E a
 |[],a,c,_,g=>by
  rw[List.mapM_nil];exact cj (g (λω=>0) a.toks)
 |e::b,a,c,i,g=>by
  rw[List.mapM_cons];refine(?_:wpAny _ _ (mkBytes e>>=_) _ _ _);refine ci (wpAny_mkBytes ?_ (by have:=i e (.head _);unfold sizeLine;lia));refine ci (m5 b _ _ (λk j=>i k (.tail _ j)) λf h=> ?_)
  exact cj (g (cons a.toks f) h)
theorem m6{a:Nat}{places:uh}{e:Wz->WF->Prop}{E:Wz->WF->Prop}(g:Builtin.Bytes.between k c places=A)(n:∀o∈A,o.size<=16777216)(s:A.length<=16777216)
 (j:∀(d:Nat->Nat) (h:Nat),e (.ref J.heap.objs.size) {J with heap:=J.heap.push (cm ⟨d3 A d⟩ 0),toks:=h}):
  wpAny (model P w) F (if places.isEmpty=true then(rule b>>=λω=>Builtin.Bytes.Kind.same .bytes (.bytes k a)>>=λq=>newList [q]>>=λi=>ret i)else((Builtin.Bytes.between k c places).mapM Builtin.Bytes.Kind.bytes.new>>=λr=>newList r>>=λi=>ret i)) (λm p=>∃l,m= .done (.ret l)/\e l p) E J:=by
 by_cases f:places.isEmpty=true
 ·rw[if_pos f];rw[List.isEmpty_iff.mp f,l5]at g;subst g;refine ci (wpAny_rule (ci (cj (ci (wpAny_newList (cj ⟨_,rfl,j (λω=>a) J.toks⟩) (by refine(?_:1<=_);unfold sizeLine;lia))))))
 ·rw[if_neg f,g];refine ci (m5 A _ _ n λd h=>ci (wpAny_newList (cj ⟨_,rfl,j d h⟩) (by rw[d8];unfold sizeLine;lia)))
theorem kL:entryFor table "bytes.split" =some Builtin.«bytes.split»:=entryFor_of_tree (by kernel_rfl)
theorem om:entryFor table "bytes.rsplit" =some Builtin.«bytes.rsplit»:=entryFor_of_tree (by kernel_rfl)
noncomputable def gg(a b:cl)(c:Nat):Wy cl:=Builtin.Bytes.between a b.size ((Builtin.Bytes.occurrences a b 0 a.size).take c)
noncomputable def pK(a b:cl)(c:Nat):Wy cl:=Builtin.Bytes.between a b.size (Builtin.Bytes.occurrencesFromRight a b c)
theorem xd{a:Nat}(f:l.isEmpty=false)(b:gg k l (k.size+1)=A)(h:∀i∈A,i.size<=16777216)(e:A.length<=16777216):
  ct P w K (rk "bytes.split" [.bytes k a,.bytes l c] [] λd=>cm ⟨d3 A d⟩ 0):=
 tC (by decide+kernel) kL (λω=>rfl) λj o n E ω ω ω ω ω g=>by
  refine(?_:wpAny _ _ (Builtin.Bytes.splitM .bytes _ _ _) _ _ _);unfold Builtin.Bytes.splitM;refine ci (wpAny_of_eq (show Builtin.Bytes.bindOptional _ "split" ["sep","maxsplit"] [.bytes l c] []=pure [some (.bytes l c),none]from rfl) (ci (cj (ci (m:=Builtin.Bytes.payload (.bytes k a)) (cj (ci (bm (bk (λb=>Bool.false_ne_true (f.symm.trans b)) ?_))))))))
  exact m6 (places:=(Builtin.Bytes.occurrences k l 0 k.size).take (k.size+1)) b h e g
theorem m7{a d:Nat}(g:l.isEmpty=false)(b:gg k l 1=A)(i:∀j∈A,j.size<=16777216)(f:A.length<=16777216):
  ct P w K (rk "bytes.split" [.bytes k a,.bytes l c,.int 1 d] [] λe=>cm ⟨d3 A e⟩ 0):=
 tC (by decide+kernel) kL (λω=>rfl) λn p o E ω ω ω ω ω h=>by
  refine(?_:wpAny _ _ (Builtin.Bytes.splitM .bytes _ _ _) _ _ _);unfold Builtin.Bytes.splitM;refine ci (wpAny_of_eq (show Builtin.Bytes.bindOptional _ "split" ["sep","maxsplit"] [.bytes l c,.int 1 d] []=pure [some (.bytes l c),some (.int 1 d)]from rfl) (ci (m:=Builtin.Bytes.countArg _ (.int 1 d)) (cj (ci (m:=Builtin.Bytes.payload (.bytes k a)) (cj (ci (bm (bk (λb=>Bool.false_ne_true (g.symm.trans b)) ?_))))))))
  exact m6 (places:=(Builtin.Bytes.occurrences k l 0 k.size).take 1) b i f h
theorem rm{a d:Nat}(g:l.isEmpty=false)(b:pK k l 1=A)(i:∀j∈A,j.size<=16777216)(f:A.length<=16777216):
  ct P w K (rk "bytes.rsplit" [.bytes k a,.bytes l c,.int 1 d] [] λe=>cm ⟨d3 A e⟩ 0):=
 tC (by decide+kernel) om (λω=>rfl) λn p o E ω ω ω ω ω h=>by
  refine(?_:wpAny _ _ (Builtin.Bytes.splitM .bytes _ _ _) _ _ _);unfold Builtin.Bytes.splitM;refine ci (wpAny_of_eq (show Builtin.Bytes.bindOptional _ "rsplit" ["sep","maxsplit"] [.bytes l c,.int 1 d] []=pure [some (.bytes l c),some (.int 1 d)]from rfl) (ci (m:=Builtin.Bytes.countArg _ (.int 1 d)) (cj (ci (m:=Builtin.Bytes.payload (.bytes k a)) (cj (ci (bm (bk (λb=>Bool.false_ne_true (g.symm.trans b)) ?_))))))))
  exact m6 (places:=Builtin.Bytes.occurrencesFromRight k l 1) b i f h
theorem rn:entryFor table "bytes.join" =some Builtin.«bytes.join»:=entryFor_of_tree (by kernel_rfl)
theorem xe{c:Wy (Wz×WA Wz)}(d:∀b∈c,b.1.onHeap=false/\b.2=none):(c.any λa=>a.1.onHeap)=false:=by rw[List.any_eq_false];intro a e;simp[(d a e).1]
theorem oS{d:Model}{F:WK}{E:Wz->WF->Prop}:∀(e:Wy (Wz×WA Wz)) (c:ui) (b:WF) (a:Unit->WF->Prop),(∀f∈e,f.1.onHeap=false/\f.2=none)->a () b->wpAny d F (Builtin.Bytes.joinLetGo e c) a E b
 |[],c,b,a,_,g=>cj g
 |(l,k)::e,c,b,a,i,g=>by
  obtain⟨_,h⟩:=i _ (.head _);have h:k=none:=h;subst h;unfold Builtin.Bytes.joinLetGo;exact ci (wpAny_letGo (oS e c b a (λf j=>i f (.tail _ j)) g))
theorem c1{d:Model}{a:Type}{b:Nat->a->Sem (ForInStep a)}{I:Nat->a->Prop}{e:a->WF->Prop}{E:Wz->WF->Prop}{f:a}(s:I 0 f)
 (x:∀g h,g<c->I g h->wpAny d F (b g h) (λr l=>l=J/\∃n,r= .yield n/\I (g+1) n) E J)(w:∀h,I c h->e h J):wpAny d F (forIn [0:c] f b) e E J:=by
 rw[Std.Legacy.Range.forIn_eq_forIn_range',show[0:c].size=c from by simp[Std.Legacy.Range.size]];refine wpAny_forIn_list _ (λq h l=>l=J/\∃g,g<=c/\q=List.range' g (c-g)/\I g h) _ ?_ ?_ _ _ ⟨rfl,0,Nat.zero_le _,rfl,s⟩
 ·intro z q h l j;obtain⟨rfl,g,o,i,k⟩:=j;have p:g<c:=Nat.lt_of_le_of_ne o λm=>by rw[m,Nat.sub_self]at i;cases i
  rw[show c-g=(c-(g+1))+1 from by lia,List.range'_succ]at i;injection i with t v;subst t v;refine wpAny_mono (x _ h p k) (λr y j=> ?_) λω ω m=>m
  obtain⟨rfl,n,rfl,k⟩:=j;exact⟨rfl,_,p,rfl,k⟩
 ·intro h l j;obtain⟨rfl,g,o,i,k⟩:=j;have:c-g=0:=by simpa using(congrArg List.length i).symm
  exact w h ((by lia:g=c)▸k)
theorem sB{b:Nat->Nat}(a:c<A.length):((⟨d3 A b⟩:ug).getD c .none)= .bytes A[c] (b c):=by rw[Array.getD_eq_getD_getElem?,List.getElem?_toArray,kK A b c,List.getElem?_eq_getElem a];rfl
noncomputable def Xy(c:Wy cl)(d:Nat)(b:WD cl×Wy (Wz×WA Wz)):Prop:=b.1=(c.take d).toArray/\∀a∈b.2,a.1.onHeap=false/\a.2=none
theorem Xy.turn{a:Nat}{b:WD cl}{d:Wy (Wz×WA Wz)}(f:c<A.length)(g:Xy A c ⟨b,d⟩):Xy A (c+1) ⟨b.push A[c],d++[(.bytes A[c] a,none)]⟩:=by
 obtain⟨e,h⟩:=g;refine⟨?_,λi e=> ?_⟩
 ·have e:b=(A.take c).toArray:=e;subst e;refine(?_:(A.take c).toArray.push A[c]=_);rw[List.push_toArray,List.take_add_one,List.getElem?_eq_getElem f];rfl
 ·rcases ud e with q|q
  ·exact h i q
  ·obtain rfl:=List.mem_singleton.mp q;exact⟨rfl,rfl⟩
set_option maxHeartbeats 1000000 in
theorem bh{a d:Nat}{b:Nat->Nat}(q:A≠[])(e:Builtin.Bytes.joined l A=n)(z:n.size<=16777216)(k:A.foldl (· + ·.size) (l.size*(A.length-1))<=16777216):
  ct P w K (fh "bytes.join" [.bytes l a,.ref c] [(c,cm ⟨d3 A b⟩ d)] λv=>.bytes n (v 0)):=
 jV (by decide+kernel) rn λH j J E ω ω ω ω h r=>by
  have f:j.heap.get? c=some (cm ⟨d3 A b⟩ d):=h _ (.head _);clear h;refine(?_:wpAny _ _ (Builtin.Bytes.joinM .bytes _) _ _ _);unfold Builtin.Bytes.joinM;refine ci (m:=selfAndOne _ _) (cj (ci (m:=Builtin.Bytes.joinItems (.ref c)) (ci (wpAny_typeOf (T:= "list") ⟨_,f,rfl⟩ (gY (by decide+kernel) (cj (ci (wpAny_seqItems f rfl ?_))))))));cases A with
  |nil=>exact absurd rfl q
  |cons g A=>
   clear q;cases A with
   |nil=>
    rw[m4]at e;subst e;exact ci (m:=typeOf (.bytes g _)) (cj (ci (wpAny_rule (cj ⟨_,rfl,r (λω=>b 0) j.toks⟩))))
   |cons t A=>
    revert e k f;refine(?_:_->_->_->wpAny _ _ (forIn [0:(d3 (g::t::A) b).length] _ _>>=_) _ _ _);generalize g::t::A=A;intro e k f;rw[d8];refine ci (c1 (I:=Xy A) ⟨rfl,λω h=>(List.not_mem_nil h).elim⟩ (λL n p o=> ?_) λn x=> ?_)
    ·obtain⟨s,taken⟩:=n;refine ci (wpAny_seqItems f rfl ?_);refine(?_:wpAny _ _ (if(false||taken.any λg=>g.1.onHeap)=true then _ else _) _ _ _)
     rw[sB p];refine bk ?_ (ci (wpAny_holding ?_))
     ·have:=xe o.2;exact λe=>Bool.false_ne_true (this.symm.trans e)
     rw[CA];exact cj (ci (wpAny_seqItems f rfl (bk (by simp) (cj ⟨rfl,_,rfl,Xy.turn p o⟩))))
    ·obtain⟨s,taken⟩:=n;obtain⟨i,y⟩:=x;have i:s=A.toArray:=by rw[List.take_length]at i;exact i
     subst i;have C:Array.foldl (λD (G:cl)=>D+G.size) (l.size*(A.toArray.size-1)) A.toArray<=16777216:=by simpa using k
     exact ci (m:=Builtin.Bytes.payload (.bytes l a)) (cj (bk (jb C) (ci (gZ e z (ci (wpAny_holding (wpAny_point (ci (oS _ _ _ _ y (cj ⟨_,rfl,r (λω=>j.toks) (j.toks+1)⟩))))))))))
end
end
section
open PySem.Calls
noncomputable def dL(b:String)(a:ui):gi:=⟨.type b,none,.fields a.toArray,#[]⟩
noncomputable def dp(b c:Nat)(a:Int):gi:=dL "list_iterator" [.ref b,.int a 0]
section
variable {P:WJ} {w:WG} {K:Nat->WA gi}
variable {f:gi->gi} {o:gi}
theorem ix{E E':mw}{b:SL}{c:WF}{p0:gi}{Pr:Wy aF}{ps:uk}(h:eh E Z y b J I)(W:d7 K E Z J)(j:E.pre=⟨a,o,false⟩::Pr)(w:E.post y b=p0::ps)
 (a1:(f p0).isFreed=false)(a2:kF p0 (f p0))(l:E'.pre=E.pre)(m:E'.UR=E.UR)(C:E'.post y b=f p0::ps)(D:E'.UQ y b=E.UQ y b)(G:E'.new y b=E.new y b)(H:E'.UW y b=E.UW y b)(X:E'.US y b=E.US y b)
 (a4:c={I with heap:=I.heap.update a f}):eh E' Z y b J c:=by
 subst a4;have O:=h.len;have a6:(⟨⟨a,o,false⟩,p0⟩:aF×gi)∈E.pre.zip (E.post y b):=by rw[j,w];exact .head _
 have M:I.heap.get? a=some p0:=h.post _ a6;have a0:J.heap.get? a=some o:=(W.pre ⟨a,o,false⟩ (by rw[j];exact .head _)).1;have R:(I.heap.update a f).get? a=some (f p0):=Heap.get?_update_self f M a1;have s:∀d,d≠a->(I.heap.update a f).get? d=I.heap.get? d:=λd n=>Heap.get?_update_ne _ _ _ _ n
 have a3:a∈addrs E.pre:=by rw[j];exact .head _
 have sY:∀i:aF,i.addr≠a->aK I.heap i->aK (I.heap.update a f) i:=λi q k=>k.same (s _ q)
 have V:∀d ob,I.heap.get? d=some ob->∃t,(I.heap.update a f).get? d=some t/\kF ob t:=λd ob k=>by
  by_cases g:d=a
  ·subst g;rw[M]at k;cases k;exact⟨_,R,a2⟩
  ·exact⟨ob,(s d g).trans k,.refl _⟩
 refine⟨⟨λd ob n v=> ?_,λd ob n=> ?_,h.step.os,λP af k T=>h.step.gens P af k (by rw[m]at T;exact T)⟩, ?_,λg p=> ?_,by rw[D,m];exact h.Vi,λg p=>h.UQ g (by rw[D,m]at p;exact p),λi q=> ?_,by rw[G];exact h.VK,λab F=>h.UW ab (by rw[H]at F;exact F),by rw[H];exact h.Vj,λB L=> ?_,h.bare⟩
 ·have N:d≠a:=λg=>v (by rw[l];exact g▸a3)
  rcases h.step.chg d ob n (by rw[l]at v;exact v)with g|⟨g,ae,A⟩
  ·exact .inl ((s d N).trans g)
  ·exact .inr ⟨g,ae,(s d N).trans A⟩
 ·obtain⟨a9,x,z⟩:=h.step.U7 d ob n;obtain⟨aa,a7,a8⟩:=V d a9 x;exact⟨aa,a7,z.trans a8⟩
 ·rw[C,l,j];rw[w,j]at O;exact O
 ·rw[C,l,j,List.zip_cons_cons]at p;rcases t6 p with e|e
  ·subst e;exact R
  ·have a5:g∈E.pre.zip (E.post y b):=by rw[j,w,List.zip_cons_cons];exact .tail _ e
   have Y:=W.nd;rw[j]at Y;have Q:=t8 (f:=aF.addr) (List.of_mem_zip e).1;have:g.1.addr≠a:=λac=>(List.nodup_cons.mp Y).1 (by rw[ac]at Q;exact Q)
   exact sY _ this (h.post g a5)
 ·rw[G]at q;have r:=h.new i q;have:i.addr≠a:=λg=>by rw[g,a0]at r;cases r.2
  exact⟨sY i this r.1,r.2⟩
 ·rw[X]at L;exact eM.imp (λag A ⟨d,ob,e,l,m⟩=>by
   obtain⟨t,x,z⟩:=V d ob l;exact⟨d,t,e,x,z.row A m⟩) (h.US B L)
noncomputable def s2(b:Wy (Nat×gi))(a:uk):mw:=⟨pl b,[],λω ω=>a,nn,nn,nn,[],nn⟩
noncomputable def FR(b:String)(a:ui)(d:Wy (Nat×gi))(c:uk)(e:Wz):Spec:=⟨.builtin b ⟨a,[]⟩,4,none,s2 d c,λω ω=>uj e⟩
theorem FS{id:String}{B:Builtin}{args:ui}{pre:Wy (Nat×gi)}(G:plainId id=true)(A:entryFor table id=some B)(C:(f o).isFreed=false)(D:kF o (f o))
 (t:∀(b:WK) (c:WF) (k:Wz->WF->Prop) (E:Wz->WF->Prop),b.depth<=900->b.units<=9000->b.handled=none->gq K c.heap->(∀m∈(a,o)::pre,c.heap.get? m.1=some m.2)->(∀g,k v {c with heap:=c.heap.update a f,toks:=g})->
   wpAny (model P w) b (B ⟨args,[]⟩) (λl d=>∃j,l= .done (.ret j)/\k j d) E c):ct P w K (FR id args ((a,o)::pre) (f o::pre.map (·.2)) v):=by
 intro b R c h M r q e x;refine codeAny_of_tree ?_;refine(?_:wpAny _ (b.under (.builtin id ⟨args,[]⟩)) (match entryFor table id with|some p=>p ⟨args,[]⟩|none=>unsupported ((withoutEnding? id "#data").getD id)) _ _ c)
 rw[A,Around.under_plainId G];have y:=h.dep;have J:=h.U9;have z:(FR id args ((a,o)::pre) (f o::pre.map (·.2)) v).dep=4:=rfl;rw[z]at y J;have i:d7 K (kJ ((a,o)::pre)) (aS b) c:=⟨e.pre,e.nd,e.UR,e.U6,e.UX⟩;refine wpAny_mono (t b.in1 c (λv d=>R (.ok (.ret v)) d) (λs d=>R (.error s) d) (by refine(?_:b.depth<=900);lia) (by refine(?_:b.units+1<=9000);lia) h.hd r (el i) λg=> ?_) (λl d H=> ?_) λω ω L=>L
 ·refine x (λω=>0) (λω=> #[]) _ ?_
  have n:=gA (al:=λω=>0) (sl:=λω=> #[]) (s1:={c with toks:=g}) i q ⟨g,rfl⟩
  exact ix (E':=s2 ((a,o)::pre) (f o::pre.map (·.2))) (o:=o) (p0:=o) (Pr:=pl pre) (ps:=pre.map (·.2)) (f:=f) n i rfl rfl C D rfl rfl rfl rfl rfl rfl rfl rfl
 ·obtain⟨j,rfl,I⟩:=H;exact I
theorem kM(a:Nat)(d:Wz)(c:String)(b:ui):Obj.mapFields (·.setIfInBounds a d) (dL c b)=dL c (b.set a d):=by unfold dL Obj.mapFields;simp
noncomputable def xf(a b:Nat)(d:Nat)(e:ug)(c:Nat)(f:Wz):Spec:=FR "list_iterator.__next__" [.ref a] [(a,dp b a d),(b,cm e c)] [dp b a (d+1:Nat),cm e c] f
theorem iy(m:H[g]?=some v):ct P w K (xf e d g H h v):=by
 have c:Obj.mapFields (·.setIfInBounds 1 (.int (g+1:Nat) 0)) (dp d e g)=dp d e (g+1:Nat):=kM 1 _ _ _;have:=FS (P:=P) (w:=w) (K:=K) (id:= "list_iterator.__next__") (args:=[.ref e]) (a:=e) (o:=dp d e g) (pre:=[(d,cm H h)]) (f:=Obj.mapFields (·.setIfInBounds 1 (.int (g+1:Nat) 0))) (v:=v) (by decide+kernel) entry_listiter_next (by rw[c];rfl) (by rw[c];exact eS rfl) λn b p E ω ω ω ω j l=>by
  have i:b.heap.get? e=some (dp d e g):=j (e,dp d e g) (.head _);have k:b.heap.get? d=some (cm H h):=j (d,cm H h) (.tail _ (.head _));refine(?_:wpAny _ _ (field (.ref e) 0>>=_) _ _ b);refine ci (wpAny_field i rfl (x:= .ref d) rfl ?_);refine(?_:wpAny _ _ (if(Value.ref d==Value.none)=true then _ else _) _ _ b);rw[if_neg (show ¬((Value.ref d==Value.none)=true)from Bool.false_ne_true)];refine(?_:wpAny _ _ (field (.ref e) 1>>=_) _ _ b);refine ci (wpAny_field i rfl (x:= .int g 0) rfl ?_);refine(?_:wpAny _ _ (seqItems? (.ref d)>>=_) _ _ b);refine ci (wpAny_seqItems k rfl ?_);simp only[Int.toNat_natCast,m];exact ci (wpAny_setField i rfl (by simp) (cj ⟨v,rfl,l b.toks⟩))
 rw[c]at this;exact this
noncomputable def jM(b e:Nat)(d:Nat)(f:ug)(c:Nat):Spec:=
 ⟨um "list_iterator.__next__" [.ref b],4,none,⟨pl [(b,dp e b d),(e,cm f c)],[],λω ω=>[dL "list_iterator" [.none,.int d 0],cm f c],nn,λa ω=>pl [(a 1,qZ (a 0)),(a 0,eE #[])],nn,[],nn⟩,λa ω=>.error (.ref (a 1))⟩
set_option maxHeartbeats 1000000 in
theorem fP(J:H[g]?=none):ct P w K (jM e d g H h):=by
 have o:Obj.mapFields (·.setIfInBounds 0 .none) (dp d e g)=dL "list_iterator" [.none,.int g 0]:=kM 0 _ _ _;intro s R b L N M D l i;refine dY (by decide+kernel) entry_listiter_next ?_;have n:d7 K (kJ [(e,dp d e g),(d,cm H h)]) (aS s) b:=⟨l.pre,l.nd,l.UR,l.U6,λB G=>by cases G⟩
 have q:b.heap.get? e=some (dp d e g):=el n _ (.head _);have I:b.heap.get? d=some (cm H h):=el n _ (.tail _ (.head _));refine(?_:wpAny _ _ (field (.ref e) 0>>=_) _ _ b);refine ci (wpAny_field q rfl (x:= .ref d) rfl ?_);refine(?_:wpAny _ _ (if(Value.ref d==Value.none)=true then _ else _) _ _ b);rw[if_neg (show ¬((Value.ref d==Value.none)=true)from Bool.false_ne_true)];refine(?_:wpAny _ _ (field (.ref e) 1>>=_) _ _ b);refine ci (wpAny_field q rfl (x:= .int g 0) rfl ?_);refine(?_:wpAny _ _ (seqItems? (.ref d)>>=_) _ _ b);refine ci (wpAny_seqItems I rfl ?_);simp only[Int.toNat_natCast,J];refine ci (wpAny_rule (ci (wpAny_setField q rfl (by simp) ?_)));refine(?_:wpAny _ _ (newExc (.type "StopIteration") []>>=_) _ _ _);refine ci ?_;simp only[newExc,newTuple];refine ci (wpAny_newObj_type ?_ (by size_fits));refine ci (m:=firstArgMember _ _) (wpAny_of_eq (a:=Value.none) (by first|rfl|(simp only[firstArgMember];rfl)) ?_);refine wpAny_newObj_type ?_ (by size_fits);simp only[raiseNew];refine ci (wpAny_handled ?_);rw[show s.in1.handled=none from L.hd];refine ci (cj (wpAny_throw ?_));have r:∀(i:Heap) (k:gi),(i.push k).objs.size=i.objs.size+1:=λi k=>by first|exact Heap.size_push .. |simp[Heap.push]
 have j:(b.heap.update e (Obj.mapFields (·.setIfInBounds 0 .none))).objs.size=b.heap.objs.size:=by
  first|exact Heap.size_update .. |simp[Heap.update]
 have t:=gA (al:=λω=>0) (sl:=λω=> #[]) (s1:=b) n D ⟨b.toks,rfl⟩
 have v:=ix (E':=s2 [(e,dp d e g),(d,cm H h)] [dL "list_iterator" [.none,.int g 0],cm H h]) (o:=dp d e g) (p0:=dp d e g) (Pr:=pl [(d,cm H h)]) (ps:=[cm H h]) (f:=Obj.mapFields (·.setIfInBounds 0 .none)) t n rfl rfl (by rw[o];rfl) (by rw[o];exact eS rfl) rfl rfl (by rw[o];rfl) rfl rfl rfl rfl rfl;have y:=gO (E':=⟨pl [(e,dp d e g),(d,cm H h)],[],λω ω=>[dL "list_iterator" [.none,.int g 0],cm H h],nn,λA ω=>pl [(A 0,eE #[])],nn,[],nn⟩) (al':=cons b.heap.objs.size (λω=>b.heap.objs.size+1)) (c:=⟨b.heap.objs.size,eE #[],false⟩) v rfl rfl rfl rfl rfl rfl j.symm rfl rfl rfl (λC k p=>by rw[j];exact Heap.lt_size p)
 have z:=gO (E':=(jM e d g H h).UM) (al':=cons b.heap.objs.size (λω=>b.heap.objs.size+1)) (c:=⟨b.heap.objs.size+1,qZ b.heap.objs.size,false⟩) y rfl rfl rfl rfl rfl rfl (by rw[show ∀(i:Heap) (k:gi),(i.push k).objs.size=i.objs.size+1 from r,j]) rfl rfl rfl (λC k p=>by rw[r,j];exact Nat.lt_succ_of_lt (Heap.lt_size p))
 have:=i _ _ _ z;rw[j];refine(?_:R (.error (.ref _)) _);rw[r,j];exact this
end
end
section
open PySem.Calls
section
variable {P:WJ} {w:WG} {K:Nat->WA gi}
theorem gQ(a:ug)(b:Nat)(c:Wz):Obj.mapSeq (·.push c) (cm a b)=cm (a.push c) (b+1):=by unfold cm Obj.mapSeq;simp
theorem yN(b:ug)(a:Nat):hQ (cm b a)=none:=rfl
theorem g0(e:ug)(c:Nat)(b:gi)(d:ew b=true):kF (cm e c) b:=⟨λω=>d,λf a=>by rw[yN]at a;cases a⟩
noncomputable def M2(c:Nat)(a:ug)(b:Nat)(d:Wz):Spec:=FR "list.append" [.ref c,d] [(c,cm a b)] [cm (a.push d) (b+1)] .none
theorem lC{l:Nat}{as:ug}{ep:Nat}(j:as.size<=1000000):ct P w K (M2 l as ep v):=by
 have b:=gQ as ep v;have:=FS (P:=P) (w:=w) (K:=K) (id:= "list.append") (args:=[.ref l,v]) (a:=l) (o:=cm as ep) (pre:=[]) (f:=Obj.mapSeq (·.push v)) (v:= .none) (by decide+kernel) entry_list_append (by rw[b];rfl) (by rw[b];exact g0 _ _ _ rfl) λh c i E ω ω ω ω e g=>by
  have d:c.heap.get? l=some (cm as ep):=e (l,cm as ep) (.head _);refine(?_:wpAny _ _ (updateSeq l (·.push v)>>=λω=>ret .none) _ _ c)
  refine ci (wpAny_updateSeq d rfl (cj ⟨.none,rfl,g c.toks⟩) (hz:= ?_) (_hz':= ?_))
  all_goals (first|(unfold sizeLine;lia)|(rw[Array.size_push];unfold sizeLine;lia))
 rw[b]at this;exact this
theorem ct.alt{S a:Spec}(q:ct P w K S)(r:a.code=S.code)(s:a.dep=S.dep)(t:a.top=S.top)(g:a.UM.pre=S.UM.pre)(h:a.UM.UR=S.UM.UR)(v:a.UM.UX=S.UM.UX)
 (n:∀c e,∃d f,S.res c e=a.res d f/\S.UM.post c e=a.UM.post d f/\S.UM.UQ c e=a.UM.UQ d f/\S.UM.new c e=a.UM.new d f/\S.UM.UW c e=a.UM.UW d f/\S.UM.US c e=a.UM.US d f):ct P w K a:=by
 intro k R z y p m l i x;rw[r];refine q k R z (by rw[<-s,<-t];exact y) p m l ⟨by rw[<-g];exact i.pre,by rw[<-g];exact i.nd,by rw[<-h];exact i.UR,by rw[<-h];exact i.U6,by rw[<-v];exact i.UX⟩ λc e s1 b=> ?_
 obtain⟨d,f,e0,e1,e2,e3,j,o⟩:=n c e;rw[e0];exact x d f s1 ⟨by rw[g,h];exact b.step,by rw[<-e1,g];exact b.len,by rw[<-e1,g];exact b.post,by rw[<-e2,h];exact b.Vi,by rw[<-e2,h];exact b.UQ,by rw[<-e3];exact b.new,by rw[<-e3];exact b.VK,by rw[<-j];exact b.UW,by rw[<-j];exact b.Vj,by rw[<-o];exact b.US,b.bare⟩
theorem eM.get{b c:Type}{d:b->c->Prop}:∀{f:Wy b} {j:Wy c},eM d f j->∀{i:Nat} {a:b},f[i]?=some a->∃g,j[i]?=some g/\d a g
 |[],[],_,i,a,e=>by simp at e
 |x::f,k::j,e,0,a,h=>by
  simp only[List.getElem?_cons_zero,Option.some.injEq]at h;subst h;exact⟨k,by simp,e.1⟩
 |x::f,k::j,e,i+1,a,h=>by
  have l:f[i]?=some a:=by simpa using h
  obtain⟨g,m,n⟩:=eM.get e.2 l;exact⟨g,by simpa using m,n⟩
 |[],_::_,e,_,_,_=>e.elim
 |_::_,[],e,_,_,_=>e.elim
theorem eM.length{b c:Type}{d:b->c->Prop}:∀{e:Wy b} {f:Wy c},eM d e f->e.length=f.length
 |[],[],_=>rfl
 |x::e,g::f,a=>congrArg (· +1) (eM.length a.2)
 |[],_::_,a=>a.elim
 |_::_,[],a=>a.elim
theorem ct.member{S:Spec}{xs:ug}{rows:Wy dh}(l:(⟨xs,rows⟩:jz)∈S.UM.UX)
 (k:xs.size=rows.length->(∀(c:Nat) a,xs[c]?=some a->∃b,a= .ref b)->ct P w K S):ct P w K S:=by
 intro f R p o j h g e n;have d:=e.UX _ l;refine k ?_ (λc a m=> ?_) f R p o j h g e n
 ·have:=eM.length d;simpa using this
 ·obtain⟨r,_,b,q,i,_⟩:=eM.get d (i:=c) (a:=a) (by simpa using m);exact⟨b,i⟩
theorem ct.more{S:Spec}{bs:Wy jz}(c:ct P w K ⟨S.code,S.dep,S.top,⟨S.UM.pre,S.UM.UR,S.UM.post,S.UM.UQ,S.UM.new,S.UM.UW,bs,S.UM.US⟩,S.res⟩)(i:∀c:Heap,(∀B∈S.UM.UX,dV c B)->∀B∈bs,dV c B):ct P w K S:=λd R l k h g f b j=>
 c d R l k h g f ⟨b.pre,b.nd,b.UR,b.U6,i _ b.UX⟩ λe m s1 a=>j e m s1 ⟨a.step,a.len,a.post,a.Vi,a.UQ,a.new,a.VK,a.UW,a.Vj,a.US,a.bare⟩
theorem dV.at{b:Heap}{H:ug}{M:Wy dh}(e:dV b ⟨H,M⟩){i:Nat}{v:Wz}{c:dh}(j:H[i]?=some v)(h:M[i]?=some c):dV b ⟨#[v],[c]⟩:=by obtain⟨k,f,g⟩:=eM.get e (i:=i) (a:=v) (by simpa using j);have d:M[i]?=some k:=f;rw[h]at d;cases d;exact⟨g,cg⟩
end
end
variable {z:AL}
section
open PySem.Calls
noncomputable def bG(a:cl):gi:=⟨.type "bytearray",none,.bytearray a 0,#[]⟩
section
variable {P:WJ} {w:WG} {K:Nat->WA gi}
variable {a:SL}
theorem eh.comp{c:Wy (Nat×gi)}{e:uk}{b d:mw}{f:SL}{s1:WF}(q:eh (s2 c e) Z z f I s1)(a5:d7 K (s2 c e) Z I)(T:e.length=c.length)(h:eh b Z y a s1 J)
 (o:b.pre=((pl c).zip e).map λg=>⟨g.1.addr,g.2,g.1.fr⟩)(L:b.UR=[])(s:d.pre=pl c)(w:d.UR=[])(A:d.post y a=b.post y a)(X:d.UQ y a=b.UQ y a)(F:d.new y a=b.new y a)(Q:d.UW y a=b.UW y a)(P:d.US y a=b.US y a):eh d Z y a I J:=by
 have V:((pl c).zip e).map (·.1)=pl c:=List.map_fst_zip (by unfold pl;rw[List.length_map];lia);have x:addrs b.pre=addrs (pl c):=by
  rw[o];unfold addrs;rw[List.map_map];have:((λk:aF=>k.addr) ∘λg:aF×gi=>(⟨g.1.addr,g.2,g.1.fr⟩:aF))=(λk:aF=>k.addr) ∘Prod.fst:=rfl
  rw[this,<-List.map_map,V]
 have Y:b.pre.length=(pl c).length:=by
  have:=congrArg List.length x;unfold addrs at this;simpa using this
 have W:∀m ob,I.heap.get? m=some ob->∃a4,s1.heap.get? m=some a4:=λm ob n=>by
  obtain⟨G,r,_⟩:=q.step.U7 m ob n;exact⟨G,r⟩
 have a0:∀g∈d.pre.zip (d.post y a),∃j∈b.pre.zip (b.post y a),j.1.addr=g.1.addr/\j.1.fr=g.1.fr/\j.2=g.2:=by
  rw[s,A,o];generalize b.post y a=p;clear A h o x Y V a5 q W s;induction c generalizing e p with
  |nil=>intro g i;simp[pl]at i
  |cons l c a1=>
   cases e with
   |nil=>simp at T
   |cons a2 e=>
    cases p with
    |nil=>intro g i;simp at i
    |cons H p=>
     intro g i;have C:g∈(⟨l.1,l.2,false⟩,H)::(pl c).zip p:=i;rcases t6 C with rfl|C
     ·exact⟨(⟨l.1,a2,false⟩,H),.head _,rfl,rfl,rfl⟩
     ·obtain⟨j,v,o⟩:=a1 (by simpa using T) p g C;exact⟨j,.tail _ v,o⟩
 refine⟨?_,by rw[A,s,h.len,Y],λg i=> ?_,by rw[X,w];rw[<-L];exact h.Vi,λg i=>by rw[w]at i;simp at i,λk N=> ?_,by rw[F];exact h.VK,λl R=> ?_,by rw[Q];exact h.Vj,by rw[P];exact h.US,h.bare⟩
 ·rw[s,w];refine q.step.trans (as1:=addrs b.pre) (gs1:=eg b.UR) h.step (λa7 M=>.inl (by rw[x]at M;exact M)) λaa O=> ?_
  rw[L]at O;simp[eg]at O
 ·obtain⟨j,v,e1,e2,e3⟩:=a0 g i;have:=h.post j v;obtain⟨⟨m,a3,a8⟩,H⟩:=g;obtain⟨⟨a6,G,a9⟩,ab⟩:=j;simp only at e1 e2 e3;subst e1 e2 e3;exact this
 ·rw[F]at N;obtain⟨D,t⟩:=h.new k N;refine⟨D, ?_⟩;cases n:I.heap.get? k.addr with
  |none=>rfl
  |some a3=>obtain⟨G,r⟩:=W _ _ n;rw[t]at r;cases r
 ·rw[Q]at R;obtain⟨D,t⟩:=h.UW l R;refine⟨D, ?_⟩;cases n:I.gens[l.1]? with
  |none=>rfl
  |some ac=>rw[q.step.gens _ _ n (by simp[s2,eg])]at t;cases t
theorem ro{E:Wz->WF->Prop}{a b:Addr}{f:WA Wz->WF->Prop}(d:I.heap.get? a=some (dp b a c))(i:I.heap.get? b=some (cm H e))(j:H[c]?=some v)
 (h:f (some v) {I with heap:=I.heap.update a (Obj.mapFields (·.setIfInBounds 1 (.int (c+1:Nat) 0)))}):wpAny (model P w) F (pyNext (.ref a)) f E I:=by
 unfold pyNext;have g:I.TypeIs (.ref a) "list_iterator" :=⟨_,d,rfl⟩;refine ci (wpAny_attempt (wpAny_callSpecial?_slot (name:=Str.ofString "__next__") g slot_listiter_next
  (wpAny_call_entry slot_listiter_next g entry_listiter_next ?_ (args_listiter_next _))))
 refine(?_:wpAny _ _ (field (.ref a) 0>>=_) _ _ I);refine ci (wpAny_field d rfl (x:= .ref b) rfl ?_);refine(?_:wpAny _ _ (if(Value.ref b==Value.none)=true then _ else _) _ _ I);rw[if_neg (show ¬((Value.ref b==Value.none)=true)from Bool.false_ne_true)];refine(?_:wpAny _ _ (field (.ref a) 1>>=_) _ _ I);refine ci (wpAny_field d rfl (x:= .int c 0) rfl ?_);refine(?_:wpAny _ _ (seqItems? (.ref b)>>=_) _ _ I);refine ci (wpAny_seqItems i rfl ?_);simp only[Int.toNat_natCast,j];exact ci (wpAny_setField d rfl (by simp) (cj ⟨v,rfl,cj h⟩))
theorem on:entryFor table "bytes.__new__.loop" =some Builtin.«bytes.__new__.loop»:=entryFor_of_tree (by kernel_rfl)
noncomputable def FT(e a c:Nat)(i d:Nat)(b:ug)(h f:cl):Spec:=
 ⟨um "bytes.__new__.loop" [.type "bytes",.ref a,.ref c],12,none,⟨pl [(a,dp e a i),(e,cm b d),(c,bG h)],[],λω ω=>[dL "list_iterator" [.none,.int b.size 0],cm b d,bG f],nn,nn,nn,[],nn⟩,λg ω=>uj (.bytes f (g 0))⟩
theorem Yd{a:Type}{f:a->Prop}{b d c:a}(g:f b)(h:f d)(i:f c):∀j∈[b,d,c],f j:=List.forall_mem_cons.2 ⟨g,List.forall_mem_cons.2 ⟨h,List.forall_mem_cons.2 ⟨i,λω e=>(List.not_mem_nil e).elim⟩⟩⟩
theorem bC{α:Type}{e a b c:α}(d:e∈[a,b,c]):e∈[c,a,b]:=(List.perm_append_comm (l₁:=[a,b]) (l₂:=[c])).mem_iff.1 d
theorem oD{a b:Nat}(d:[a,b,c].Nodup):[c,a,b].Nodup:=(List.perm_append_comm (l₁:=[a,b]) (l₂:=[c])).nodup_iff.1 d
variable {b d c:Nat×gi}
theorem bZ{e f g:gi}{s1:WF}(h:eh (s2 [b,d,c] [e,f,g]) Z y a I s1):eh (s2 [c,b,d] [g,e,f]) Z y a I s1:=
 ⟨⟨λm n j k=>h.step.chg m n j λi=>k (bC (a:=b.1) (b:=d.1) (c:=c.1) i),h.step.U7,h.step.os,h.step.gens⟩,h.len,λi l=>h.post i (bC (bC (α:=aF×gi) (a:=(⟨c.1,c.2,false⟩,g)) (b:=(⟨b.1,b.2,false⟩,e)) (c:=(⟨d.1,d.2,false⟩,f)) l)),h.Vi,h.UQ,h.new,h.VK,h.UW,h.Vj,h.US,h.bare⟩
theorem xX{x y z x2 y2 z2:gi}(a:d7 K (s2 [b,d,c] [x,y,z]) Z I):d7 K (s2 [c,b,d] [z2,x2,y2]) Z I:=
 ⟨λf e=>a.pre f (bC (bC (α:=aF) (a:=⟨c.1,c.2,false⟩) (b:=⟨b.1,b.2,false⟩) (c:=⟨d.1,d.2,false⟩) e)),oD (a:=b.1) (b:=d.1) (c:=c.1) a.nd,a.UR,a.U6,a.UX⟩
set_option maxHeartbeats 1000000 in
theorem CH{b a c t:Nat}{d:cl}{n:Nat}(ae:H[c]?=some (.int n t))(av:n<256)(au:d.size<1000000)(af:ct P w K (FT b a g (c+1) e H (d.push n.toUInt8) l)):ct P w K (FT b a g c e H d l):=by
 intro v R i s I F G h a0;refine dY (by decide+kernel) on ?_;have j:d7 K (kJ [(a,dp b a c),(b,cm H e),(g,bG d)]) (aS v) i:=⟨h.pre,h.nd,h.UR,h.U6,λB p=>by cases p⟩
 have a7:i.heap.get? a=some (dp b a c):=el j _ (.head _);have aa:i.heap.get? b=some (cm H e):=el j _ (.tail _ (.head _));have a8:i.heap.get? g=some (bG d):=el j _ (.tail _ (.tail _ (.head _)));have a6:a≠g:=by
  have a2:=h.nd;have J:[a,b,g].Nodup:=a2;simp at J;exact J.1.2
 refine(?_:wpAny _ _ (pyNext (.ref a)>>=_) _ _ i);refine ci (ro a7 aa ae ?_);refine ci (wpAny_holding (cj ?_));refine ci (wpAny_letGo ?_);rw[if_neg (by simp;lia)];have o:Obj.mapFields (·.setIfInBounds 1 (.int (c+1:Nat) 0)) (dp b a c)=dp b a (c+1:Nat):=kM 1 _ _ _;have C:(i.heap.update a (Obj.mapFields (·.setIfInBounds 1 (.int (c+1:Nat) 0)))).get? g=some (bG d):=(Heap.get?_update_ne _ _ _ _ (Ne.symm a6)).trans a8;have a9:((i.heap.update a (Obj.mapFields (·.setIfInBounds 1 (.int (c+1:Nat) 0)))).update g (Obj.mapBytearray (·.push n.toUInt8))).get? g=some (bG (d.push n.toUInt8)):=by
  have:=Heap.get?_update_self (Obj.mapBytearray (·.push n.toUInt8)) C rfl;exact this
 refine ci (m:=Builtin.Bytes.write _ _) ?_;refine(?_:wpAny _ _ (updateBytearray g _) _ _ _);unfold updateBytearray;refine ci (wpAny_load C ?_);refine ci (wpAny_updatePart C ?_);refine wpAny_lookBehind a9 ?_ ?_
 ·refine(?_:Data.pastItsLine (.bytearray (d.push n.toUInt8) 0)=none);unfold Data.pastItsLine;have:d.size+1<=sizeLine:=by unfold sizeLine;lia
  simp;exact this
 refine cj ⟨by kernel_rfl, ?_⟩;have M:=gA (al:=λω=>0) (sl:=λω=> #[]) (s1:=i) j G ⟨i.toks,rfl⟩
 have N:=ix (E':=s2 [(a,dp b a c),(b,cm H e),(g,bG d)] [dp b a (c+1:Nat),cm H e,bG d]) (o:=dp b a c) (p0:=dp b a c) (Pr:=pl [(b,cm H e),(g,bG d)]) (ps:=[cm H e,bG d]) (f:=Obj.mapFields (·.setIfInBounds 1 (.int (c+1:Nat) 0))) M j rfl rfl (by rw[o];rfl) (by rw[o];exact eS rfl) rfl rfl (by rw[o];rfl) rfl rfl rfl rfl rfl;have aq:=xX (x2:=dp b a (c+1:Nat)) (y2:=cm H e) (z2:=bG d) (x:=dp b a c) (y:=cm H e) (z:=bG d) ⟨j.pre,j.nd,j.UR,j.U6,j.UX⟩;have O:=bZ N;have Q:=ix (E':=s2 [(g,bG d),(a,dp b a c),(b,cm H e)] [bG (d.push n.toUInt8),dp b a (c+1:Nat),cm H e]) (o:=bG d) (p0:=bG d) (Pr:=pl [(a,dp b a c),(b,cm H e)]) (ps:=[dp b a (c+1:Nat),cm H e]) (f:=Obj.mapBytearray (·.push n.toUInt8)) O aq rfl rfl rfl ⟨λω=>rfl,λl ac=>by cases ac⟩ rfl rfl rfl rfl rfl rfl rfl rfl
 have k:=bZ (bZ Q);have ap:d7 K (s2 [(a,dp b a c),(b,cm H e),(g,bG d)] [dp b a (c+1:Nat),cm H e,bG (d.push n.toUInt8)]) (aS v) i:=⟨h.pre,h.nd,h.UR,h.U6,λB p=>by cases p⟩
 have V:gq K ((i.heap.update a (Obj.mapFields (·.setIfInBounds 1 (.int (c+1:Nat) 0)))).update g (Obj.mapBytearray (·.push n.toUInt8))):=λA D r=>by
  have a1:=F A D r;rcases k.step.chg A D a1 (λq=>by
   obtain⟨W,a3,o⟩:=ua q;have:=(h.pre W a3).2.1;rw[o,r]at this;cases this)with q|⟨q,_⟩
  ·exact q
  ·rw[(fM I A q).1]at r;cases r
 refine af v R _ ⟨s.hd,s.top,s.dep,s.U9⟩ (by
  obtain⟨Z,a5,ab⟩:=I;refine⟨Z,a5,λX a4=> ?_⟩
  obtain⟨ag,L,D,ah,ai,aj,ak⟩:=ab X a4;obtain⟨ao,al,an⟩:=k.step.U7 _ _ ai;exact⟨ag,L,ao,ah,al,an.nf aj,ak⟩) V G ⟨Yd ⟨k.post (⟨a,dp b a c,false⟩,dp b a (c+1:Nat)) (.head _),(h.pre (⟨a,dp b a c,false⟩) (.head _)).2⟩ ⟨k.post (⟨b,cm H e,false⟩,cm H e) (.tail _ (.head _)),(h.pre (⟨b,cm H e,false⟩) (.tail _ (.head _))).2⟩ ⟨k.post (⟨g,bG d,false⟩,bG (d.push n.toUInt8)) (.tail _ (.tail _ (.head _))),(h.pre (⟨g,bG d,false⟩) (.tail _ (.tail _ (.head _)))).2⟩,h.nd,h.UR,h.U6,λB p=>by cases p⟩ λY as ar T=> ?_
 ·exact a0 Y as ar (k.comp ap rfl T rfl rfl rfl rfl rfl rfl rfl rfl rfl)
theorem yO{b a g e:Nat}{H:ug}{l:cl}(q:ct P w K (FT b a g H.size e H l l)):∀(k c:Nat) (d:cl),c+k=H.size->(∀j h,c<=j->H[j]?=some h->∃f p,h= .int (f:Nat) p/\f<256)->
  d++((H.toList.drop c).map λh=>match h with| .int f _=>f.toNat.toUInt8|_=>0).toArray=l->d.size+k<1000000->ct P w K (FT b a g c e H d l)
 |0,c,d,t,o,n,x=>by
  have i:c=H.size:=by lia
  subst i;have:d=l:=by
   rw[<-n];simp
  subst this;exact q
 |k+1,c,d,t,o,n,x=>by
  have m:c<H.size:=by lia
  obtain⟨f,p,i,v⟩:=o c H[c] (Nat.le_refl _) (by simp[m]);refine CH (n:=f) (t:=p) (by rw[<-i];simp[m]) v (by lia) (yO q k (c+1) _ (by lia) (λj h y r=>o j h (by lia) r) ?_ (by rw[Array.size_push];lia))
  rw[<-n];have s:H.toList.drop c=H[c]::H.toList.drop (c+1):=by
   rw[List.drop_eq_getElem_cons (by simpa using m)];simp
  rw[s,i];simp
end
end
variable {s t:Int}
section
open PySem.Calls
section
variable {P:WJ} {w:WG} {K:Nat->WA gi}
theorem ur:entryFor table "range_iterator.__next__" =some Builtin.«range_iterator.__next__»:=entryFor_of_tree (by kernel_rfl)
noncomputable def fS(b left a:Int):gi:=dL "range_iterator" [.int b 0,.int left 0,.int a 0]
noncomputable def yP(a:Nat)(c left b f e:Int):Spec:=⟨um "range_iterator.__next__" [.ref a],4,none,⟨pl [(a,fS c left b)],[],λω ω=>[fS f e b],nn,nn,nn,[],nn⟩,λd ω=>uj (.int c (d 0))⟩
theorem tE{left:Int}(C:0<left)(n:s+q=r)(p:left-1=t):ct P w K (yP a s left q r t):=by
 intro i R c D A z l d m;refine dY (by decide+kernel) ur ?_;have h:d7 K (kJ [(a,fS s left q)]) (aS i) c:=⟨d.pre,d.nd,d.UR,d.U6,λB g=>by cases g⟩
 have e:c.heap.get? a=some (fS s left q):=el h _ (.head _);have e1:Obj.mapFields (·.setIfInBounds 0 (.int r 0)) (fS s left q)=fS r left q:=kM 0 _ _ _;have e2:Obj.mapFields (·.setIfInBounds 1 (.int t 0)) (fS r left q)=fS r t q:=kM 1 _ _ _;have v:(c.heap.update a (Obj.mapFields (·.setIfInBounds 0 (.int r 0)))).get? a=some (fS r left q):=by
  have:=Heap.get?_update_self (Obj.mapFields (·.setIfInBounds 0 (.int r 0))) e (by rw[e1];rfl);rw[e1]at this;exact this
 refine(?_:wpAny _ _ (field (.ref a) 0>>=_) _ _ c);refine ci (wpAny_field e rfl (x:= .int s 0) rfl ?_);refine(?_:wpAny _ _ (field (.ref a) 1>>=_) _ _ c);refine ci (wpAny_field e rfl (x:= .int left 0) rfl ?_);refine(?_:wpAny _ _ (field (.ref a) 2>>=_) _ _ c);refine ci (wpAny_field e rfl (x:= .int q 0) rfl ?_);dsimp only;rw[if_neg (by lia)];have j:=gA (al:=λω=>c.toks) (sl:=λω=> #[]) (s1:=c) h l ⟨c.toks,rfl⟩
 have k:=ix (E':=s2 [(a,fS s left q)] [fS r left q]) (o:=fS s left q) (p0:=fS s left q) (Pr:=[]) (ps:=[]) (f:=Obj.mapFields (·.setIfInBounds 0 (.int r 0))) j h rfl rfl (by rw[e1];rfl) (by rw[e1];exact eS rfl) rfl rfl (by rw[e1];rfl) rfl rfl rfl rfl rfl;have y:d7 K (s2 [(a,fS s left q)] [fS r left q]) (aS i) c:=⟨d.pre,d.nd,d.UR,d.U6,λB g=>by cases g⟩
 have b:=ix (E':=(yP a s left q r t).UM) (o:=fS s left q) (p0:=fS r left q) (Pr:=[]) (ps:=[]) (f:=Obj.mapFields (·.setIfInBounds 1 (.int t 0))) k y rfl rfl (by rw[e2];rfl) (by rw[e2];exact eS rfl) rfl rfl (by rw[e2];rfl) rfl rfl rfl rfl rfl;refine ci (wpAny_setField e rfl (by simp) ?_);rw[show rawInt (s+q)= .int r 0 by rw[n];rfl];refine ci (wpAny_setField v rfl (by simp) ?_);rw[show rawInt (left-1)= .int t 0 by rw[p];rfl];refine ci (wpAny_mkInt (cj ?_));refine m (λω=>c.toks) (λω=> #[]) _ ?_
 exact⟨⟨b.step.chg,b.step.U7,rfl,b.step.gens⟩,b.len,b.post,b.Vi,b.UQ,b.new,b.VK,b.UW,b.Vj,b.US,b.bare⟩
noncomputable def mulR(b d e:Int):TU:=λa ω ω=>fh "int.__mul__" [.int b (tk a 0),.int d (tk a 1)] [] λc=>.int e (c 0)
theorem pL(d:IntMulOk q r)(e:q*r=s):∀a c b,ct P w K (mulR q r s a c b):=λa c b=>by subst e;exact yF d
end
end
section
open PySem.Calls PySem.SeqAt
section
variable {P:WJ} {w:WG} {K:Nat->WA gi}
theorem rr:entryFor table "tuple.__contains__" =some Builtin.«tuple.__contains__»:=entryFor_of_tree (by kernel_rfl)
noncomputable def Eqv(g f:Wz)(e:Bool):Prop:=∀(d:WJ) (w:WG) (c:WK) (E:Wz->WF->Prop) (b:WF) (a:Bool->WF->Prop),a e b->wpAny (model d w) c (eqBool g f) a E b
theorem Eqv.int{a b:Int}{c d:Nat}{D:Bool}(e:(a==b)=D):Eqv (.int a c) (.int b d) D:=λi w g E j h f=>wpAny_eqBool_int (by rw[e];exact f)
theorem Eqv.bytes{a b:cl}{c d:Nat}{D:Bool}(e:decide (a.toList=b.toList)=D):Eqv (.bytes a c) (.bytes b d) D:=λi w g E j h f=>eqBool_bytes (by rw[e];exact f)
theorem rt{e:Wz->Bool}(j:∀c∈L,Eqv c v (e c))(l:L.any e=D):ct P w K (fh "tuple.__contains__" [.ref a,v] [(a,eE L.toArray)] λω=>.bool D):=by
 intro d R b r q p h f i;have k:=el f (a,eE L.toArray) (.head _);refine dY (by decide+kernel) rr ?_;refine tuple_containsAt a L.toArray 0 none #[] v e P w d R b ⟨k,λc m=> ?_, ?_⟩
 ·intro n w E g o;exact j c (by simpa using m) n w d.in1 E b g o
 ·have:=i (λω=>0) (λω=> #[]) b (gA f h ⟨b.toks,rfl⟩)
  rw[show(L.toArray.any e)=D by rw[<-l];simp];exact this
end
end
section
open PySem.Calls
theorem tF{a:WD WL}(c:a.toList.all (λb=>match b.key with| .str _ _=>true|_=>false)=true):StrKeys a:=λb d=>by
 have:=List.all_eq_true.mp c b (Array.mem_def.mp d);cases e:b.key with
 |str f g=>exact⟨f,g,rfl⟩
 |_=>rw[e]at this;cases this
noncomputable def dictOf(b:gi):WD WL:=match b.data with
 | .dict a _=>a
 |_=> #[]
variable {a:WG}
theorem Ha{b:Heap}(c:gq (KB a) b):OwnTail b [.type "Exception",.type "BaseException",.type "object"] [.ref 31,.type "Exception",.type "BaseException",.type "object"]:=by have d:b.get? 30=some (Ce a.params):=c 30 _ (by kernel_rfl);have e:b.get? 31=some (Kf a.params):=c 31 _ (by kernel_rfl);refine .own (mA:=λf=>nsFind (dictOf (Ce a.params)) f) e ⟨_,dictOf (Ce a.params),2,d,rfl,tF (by kernel_rfl),λω=>rfl⟩ (by kernel_rfl) .base
theorem rA{c:WK}{b:WH->WF->Prop}(d:gq (KB a) I.heap)(e:b (.ok (.ret (.ref (I.heap.objs.size+1)))) {I with heap:=(I.heap.push (kD v)).push (pz (.ref 44) I.heap.objs.size)}):codeAny (model PW a) c (.builtin "Exception.__new__" ⟨[.ref 44,v],[]⟩) b I:=by have f:I.heap.get? 44=some (Kg a.params):=d 44 _ (by kernel_rfl);obtain⟨i,h,g,tk,j⟩:=I;exact codeAny_exc_new_subT F.excBase_Exception (Ha d) f e
end
variable {u:WB}
section
theorem gR(c:WG)(b:Heap)(d:gq (KB c) b):b.NoLimit:=by
 refine⟨_,⟨_,_,_,d 2 (Qk c.params) (by kernel_rfl),rfl, ?_,λω=>rfl⟩,by kernel_rfl⟩
 intro e a;simp[E]at a;rcases a with rfl|a<;>simp_all
theorem m8(a:WG):lx PW a (KB a):=⟨gR a,λd R e f b c=>rA b c⟩
noncomputable def OK(a:WB)(S:Spec):Prop:=ct PW (W2 a) (KB (W2 a)) S
noncomputable def fj(a:WB)(S:Seg):Prop:=gb PW (W2 a) (KB (W2 a)) S
noncomputable def dS:Code->Wy Stmt
 | .block a _=>a
 |_=>[]
noncomputable def gS:Code->Env
 | .block _ a=>a
 |_=>default
noncomputable def UM(d:Wy (Nat×gi))(c:AL->uk)(b:AL->Wy (Nat×gi)):mw:=⟨pl d,[],λa ω=>c a,nn,λa ω=>pl (b a),nn,[],nn⟩
noncomputable def aE(c:uh)(b:AL)(_:SL):AL:=λa=>b ((c[a]?).getD a)
noncomputable def g4(b:uh)(_:AL)(c:SL):SL:=λa=>c ((b[a]?).getD a)
noncomputable def dT:uh->(AL->AL)->AL->SL->AL
 |[],c,b,_=>c b
 |a::d,c,b,e=>cons (b a) (dT d c b e)
noncomputable abbrev JR:=Spec×Wy TU×Wy TG
noncomputable def cq(a:WB):Wy TU->Prop
 |[]=>True
 |f::d=>(∀b e c,OK a (f b e c))/\cq a d
noncomputable def sr(a:WB):Wy TG->Prop
 |[]=>True
 |f::d=>(∀b e c,fj a (f b e c))/\sr a d
theorem cq.mem{a:WB}{b:Wy TU}(d:cq a b){c:TU}(e:c∈b):∀f i g,OK a (c f i g):=by
 induction b with
 |nil=>cases e
 |cons j b h=>
  rcases t6 e with rfl|q
  ·exact d.1
  ·exact h d.2 q
theorem sr.mem{a:WB}{b:Wy TG}(d:sr a b){c:TG}(e:c∈b):∀f i g,fj a (c f i g):=by
 induction b with
 |nil=>cases e
 |cons j b h=>
  rcases t6 e with rfl|q
  ·exact d.1
  ·exact h d.2 q
noncomputable def aI(a:WB)(S:WB->Spec):Prop:=OK a (S a)
noncomputable def aO(a:WB)(S:WB->Seg):Prop:=fj a (S a)
noncomputable def aw(a:WB)(b:WB->Wy TU):Prop:=cq a (b a)
noncomputable def aG(a:WB)(b:WB->Wy TG):Prop:=sr a (b a)
structure fF where
 n:Nat
 UT:uh
 us:Wy TU:=[]
 ps:Wy (uh):=[]
 gs:Wy (uh):=[]
 bs:Wy (Wy f8):=[]
 ss:Wy TG:=[]
 U2:Wy (uh):=[]
 UY:Wy (uh):=[]
 U1:Wy (Wy f8):=[]
noncomputable def sC(a:WB){d:Type}:IH d:=iter (KB (W2 a)) XF ⟨PW,(W2 a).params⟩ 20000
variable {b a:Type}
noncomputable def b0(f:WB->a->aJ (b×St) b)(E:a->mw)(S:a)(c:fF)(i:WB)(d:AL)(g:SL):WA (b×St):=f i S (λe h=>some (e,h)) (dd (E S) c.UT (dz c.us c.ps c.gs c.bs) (di c.ss c.U2 c.UY c.U1) d g)
noncomputable def RL(g:WB->a->aJ (b×St) b)(E:a->mw)(S:Bool->a)(e:Bool->fF)(f c:uh)(d:Wy f8)(h:Bool->WB):=(xG (E (S false)) (b0 g E (S false) (e false) (h false)) f c d,xG (E (S true)) (b0 g E (S true) (e true) (h true)) f c d)
noncomputable def RR(f:WB->a->aJ (b×St) b)(E:a->mw)(g:a->AL->SL->b)(S:Bool->a)(c:Bool->fF)(e:AL->SL->AL)(d:AL->SL->SL)(h:Bool->WB):=(xW (E (S false)) (b0 f E (S false) (c false) (h false)) (g (S false)) e d,xW (E (S true)) (b0 f E (S true) (c true) (h true)) (g (S true)) e d)
theorem Xz{c:WB->a->aJ (b×St) b}{E:a->mw}{h:a->AL->SL->b}{S:Bool->a}{e:Bool->fF}{g:uh}{d:Wy f8}{j:AL->SL->AL}{i:AL->SL->SL}{f:Bool->WB}(l:RL c E S e g W d f=RR c E h S e j i f):∀k,Yc (E (S k)) (b0 c E (S k) (e k) (f k)) (h (S k)) g W d
 |false=>gf (congrArg Prod.fst l)
 |true=>gf (congrArg Prod.snd l)
noncomputable def vB(a:WB)(b:Bool):WB:=⟨a.w,b,a.b2⟩
variable {c:WB->Spec->aJ (WH×St) WH}
theorem bK{v:Bool->WB}{S:Bool->Spec}(e:Bool->fF)(t k:uh)(l:Wy f8)(n:AL->SL->AL)(m:AL->SL->SL)(a:Bool)(s:cq (v a) (e a).us)(r:sr (v a) (e a).ss)
 (j:RL c Spec.UM S e t k l v=RR c Spec.UM Spec.res S e n m v)
 (w:∀(b:WK) (d:Wy Env) (F:WH->St->Prop),b.frames=some d->MV b (S a).dep ⟨none,(S a).top⟩->ax PW (W2 (v a)) (KB (W2 (v a))) F d (c (v a) (S a)) (runC (model PW (W2 (v a))) b (S a).code)):OK (v a) (S a):=λb y z x ⟨d,h,q⟩ p o i g=>by
 rw[aY h]at i g;exact gI (Xz j a) (w b d _ h x) (λv f=>s.mem (eC v f)) (λv f=>r.mem (ed v f)) q p o i g
noncomputable def Yt(g:WB->a->aJ (b×St) b)(E:a->mw)(S:a)(e:fF)(f c:uh)(d:Wy f8)(h:WB):=xG (E S) (b0 g E S e h) f c d
noncomputable def Yu(f:WB->a->aJ (b×St) b)(E:a->mw)(g:a->AL->SL->b)(S:a)(c:fF)(e:AL->SL->AL)(d:AL->SL->SL)(h:WB):=xW (E S) (b0 f E S c h) (g S) e d
theorem Ra{S:Spec}(d:fF)(t k:uh)(l:Wy f8)(n:AL->SL->AL)(m:AL->SL->SL)(s:cq u d.us)(r:sr u d.ss)
 (j:Yt c Spec.UM S d t k l u=Yu c Spec.UM Spec.res S d n m u)
 (v:∀(a:WK) (b:Wy Env) (F:WH->St->Prop),a.frames=some b->MV a S.dep ⟨none,S.top⟩->ax PW (W2 u) (KB (W2 u)) F b (c u S) (runC (model PW (W2 u)) a S.code)):OK u S:=λa x y w ⟨b,h,q⟩ p o i g=>by
 rw[aY h]at i g;exact gI (gf j) (v a b _ h w) (λf e=>s.mem (eC f e)) (λf e=>r.mem (ed f e)) q p o i g
noncomputable def bH(a:WB)(S:Spec):aJ (WH×St) WH:=match jA S.code with
 |true=>cX
 |false=>(sC a).c S.dep ⟨none,S.top⟩ S.code
noncomputable def hT(a:WB)(S:Spec):aJ (WH×St) WH:=(sC a).b S.dep ⟨none,S.top⟩ (dS S.code) (gS S.code)
theorem hU(a:WB){F:WH->St->Prop}:aN PW (W2 a) (KB (W2 a)) F XF 20000/\pD PW (W2 a) (KB (W2 a)) F XF 20000/\BodyOk PW (W2 a) (KB (W2 a)) F XF 20000:=by rw[<-l2];have b:=l1 (m8 (W2 a)) (F:=F) 20000;exact⟨b.1,b.2.1,b.2.2.1⟩
theorem bU{a:WB}{S:Spec}(b:WK)(c:Wy Env)(d:WH->St->Prop)(e:b.frames=some c)(h:MV b S.dep ⟨none,S.top⟩):ax PW (W2 a) (KB (W2 a)) d c (bH a S) (runC (model PW (W2 a)) b S.code):=by
 unfold bH;cases g:jA S.code with
 |true=>exact .stop
 |false=>exact((hU a).2.1 _ _ _ b c e h).mono λR i f=>(oF g).symm▸f
theorem oE{a:WB}{S:Spec}(g:S.code= .block (dS S.code) (gS S.code))(b:WK)(c:Wy Env)(d:WH->St->Prop)(e:b.frames=some c)(h:MV b S.dep ⟨none,S.top⟩):ax PW (W2 a) (KB (W2 a)) d c (hT a S) (runC (model PW (W2 a)) b S.code):=
 ((hU a).2.2 _ _ _ _ b c e h.toT).mono λR i f=>by rw[g];exact f
noncomputable def hM(d:Nat)(c b:Int)(e f a:Nat):gi:=cm #[.ref d,.int c e,.int b f] a
noncomputable def jd(c b m:Nat)(g f j k:Int)(l h d:Nat)(i:ug)(e:Nat):Spec:=
 ⟨.call (.ref 918) ⟨[.ref c,.int j m],[]⟩,12,none,UM [(c,hM b g f l h d),(b,cm i e)] (λa=>[hM b (g+1) f (a 1) h d,cm i e]) (λω=>[]),λa ω=>uj (.int k (a 0))⟩
noncomputable def hB(b:ug):Prop:=∀a,a<b.size->∃d c,b[a]?=some (.int d c)
noncomputable def intAt(b:ug)(a:Nat):Int:=match b[a]? with
 |some (.int c _)=>c
 |_=>0
noncomputable def dD(c:ug)(a d b:Int):Int:=if a<c.size then(iU (intAt c a.toNat)).fmod b else((d+a*13).fdiv (1+a.fmod 3)).fmod b
end
noncomputable abbrev oq:=Seg×Wy TU×Wy TG
noncomputable def bI(a:Pos)(b:WB)(S:Seg):aJ (End×St) End:=eL (sC b) S.dep S.code a (S.start.getD (XF.den S.code)) S.fs S.fr
noncomputable def ke(e:WB)(S:Seg)(a:fF)(c:Pos)(b:AL)(d:SL):WA (End×St):=b0 (bI c) Seg.UM S a e b d
theorem Re{v:Bool->WB}{S:Bool->Seg}(c:Bool->fF)(H l:uh)(m:Wy f8)(o:AL->SL->AL)(n:AL->SL->SL)(a:Bool)(D:cq (v a) (c a).us)(A:sr (v a) (c a).ss)
 (k:∀d,RL (bI d) Seg.UM S c H l m v=RR (bI d) Seg.UM Seg.res S c o n v):fj (v a) (S a):=λL M N I ⟨j,h,t⟩ s q p i g=>by
 rw[aY h]at i g;have C:(S a).start.getD (denote table (S a).code)=(S a).start.getD (XF.den (S a).code):=by rw[<-l2];rfl
 rw[C];intro J d z G;have b:=Xz (k d) a;unfold b0 bI sC at b;rw[<-l2]at b|-;exact gI (Fm:=bv (S a).fr::j) b (ax.enter (l1 (m8 (W2 (v a))) 20000).2.2.2 h I) (λv f=>D.mem (eC v f)) (λv f=>A.mem (ed v f)) (λr e=>by
  rcases t6 e with rfl|e
  ·obtain⟨y,ob,w,x⟩:=s;exact⟨(λb=>nomatch b),_,ob,rfl,w,x,y⟩
  ·exact t r e) q p i g J z G
noncomputable def vk:Wy g8->Wy WM
 |[]=>[]
 | .f a _::_=>a
 |_::b=>vk b
noncomputable def pM(a:WA (End×St)):Wy WM:=match a with
 |some (_,st)=>vk st.lg
 |none=>[]
noncomputable def aH(g:WA (End×St))(h:Wz):End:=match g with
 |some (.susp _ c e d a f b,_)=>.susp h c e d a f b
 |_=>.ret (.ok .next)
noncomputable def bV(c:Code)(a:Nat):Seg:=⟨c,none,[],a,0,⟨[],[],nn,nn,nn,nn,[],nn⟩,λω ω=>.ret (.ok .next)⟩
theorem gb.alt{c:WJ}{d:WG}{b:Nat->WA gi}{S a:Seg}(x:gb c d b S)(y:a.code=S.code)(G:a.start=S.start)(D:a.fs=S.fs)(C:a.fr=S.fr)(z:a.dep=S.dep)(k:a.UM.pre=S.UM.pre)(l:a.UM.UR=S.UM.UR)(A:a.UM.UX=S.UM.UX)
 (t:∀f h,∃g i,S.res f h=a.res g i/\S.UM.post f h=a.UM.post g i/\S.UM.UQ f h=a.UM.UQ g i/\S.UM.new f h=a.UM.new g i/\S.UM.UW f h=a.UM.UW g i/\S.UM.US f h=a.UM.US g i):gb c d b a:=by
 intro q R H p w n s r j o;rw[y,G,D];rw[C]at n j o;refine x q R H (by rw[z]at p;exact p) w n s r ⟨by rw[<-k];exact j.pre,by rw[<-k];exact j.nd,by rw[<-l];exact j.UR,by rw[<-l];exact j.U6,by rw[<-A];exact j.UX⟩ λf h s1 e=> ?_
 obtain⟨g,i,e0,e1,e2,e3,m,v⟩:=t f h;rw[e0];exact o g i s1 ⟨by rw[k,l];exact e.step,by rw[<-e1,k];exact e.len,by rw[<-e1,k];exact e.post,by rw[<-e2,l];exact e.Vi,by rw[<-e2,l];exact e.UQ,by rw[<-e3];exact e.new,by rw[<-e3];exact e.VK,by rw[<-m];exact e.UW,by rw[<-m];exact e.Vj,by rw[<-v];exact e.US,e.bare⟩
noncomputable def mm(b:AL)(c d:Nat):AL:=λa=>if a=c then d else b a
theorem bi:∀(a:Wy cl) (F d:AL),(∀c,c<a.length->F c=d c)->d3 a F=d3 a d
 |[],_,_,_=>rfl
 |b::a,F,d,e=>by
  rw[d3,d3,e 0 (by simp),bi a (cy F) (cy d) λc f=>e (c+1) (by simpa using f)]
theorem m9:∀(a c:Wy cl) (F:AL),d3 (a++c) F=d3 a F++d3 c (λd=>F (d+a.length))
 |[],c,F=>by simp[d3]
 |b::a,c,F=>by
  rw[List.cons_append,d3,d3,m9 a c (cy F),List.cons_append];congr 2
theorem yQ(a:Wy cl)(b:AL)(d:cl)(c:Nat):(⟨d3 a b⟩:ug).push (.bytes d c)=⟨d3 (a++[d]) (mm b a.length c)⟩:=by
 apply Array.ext';rw[m9];have e:d3 a (mm b a.length c)=d3 a b:=bi _ _ _ λg f=>by unfold mm;rw[if_neg (by lia)]
 rw[e];simp[d3,mm]
noncomputable def rC(b:Wy cl)(c:AL)(d:cl):TU:=λa e ω=>FR "list.append" [.ref (ad a 0),.bytes d (tk a 1)] [(ad a 0,cm ⟨d3 b c⟩ (eJ e 0))] [cm ⟨d3 (b++[d]) (mm c b.length (tk a 1))⟩ (eJ e 0+1)] .none
theorem iz(e:A.length<=1000000):∀a b c,OK u (rC A y k a b c):=λa b c=>by
 have:=lC (P:=PW) (w:=W2 u) (K:=KB (W2 u)) (l:=ad a 0) (as:=⟨d3 A y⟩) (ep:=eJ b 0) (v:= .bytes k (tk a 1)) (by refine(?_:(d3 A y).length<=_);rw[d8];exact e);refine this.alt rfl rfl rfl rfl rfl rfl λd f=>⟨d,f,rfl, ?_,rfl,rfl,rfl,rfl⟩
 refine(?_:[cm _ _]=[cm _ _]);rw[yQ]
section
open PySem.Calls
noncomputable def Wv:Nat->Nat->uh->uh
 |0,_,a=>a
 |k+1,b,a=>Wv k b (a.getD b 0::a)
noncomputable def Qo:Nat->Nat->uh->uh
 |0,_,b=>b
 |f+1,a,b=>match Nat.ble a 1,Nat.ble (a % 16) 12,a % 16 with
  |true,_,_=>b
  |false,true,c=>Qo f (a/16) (c::b)
  |false,false,13=>Qo f (a/4096) (a/16 % 256::b)
  |false,false,14=>Qo f (a/65536) (a/16 % 4096::b)
  |false,false,_=>Qo f (a/65536) (Wv (a/4096 % 16+4) (a/16 % 256) b)
noncomputable def dc(a:Nat):uh:=Qo 3000 a []
variable {Y:WB->Wy TU} {a:WB}
theorem oT{S:WB->Spec}(g:Nat)(h:Wy (uh))(j:uh)(i:AL->SL->AL)(l:aw a Y)(G:Wy (uh):=[])(J:Wy (Wy f8):=[])(I:uh:=[])(R:Wy f8:=[])(Z:AL->SL->SL:=g4 [])(c:WB->Wy TG:=λω=>[])(d e:Wy (uh):=[])(f:Wy (Wy f8):=[])(k:aG a c:=by trivial)
 (H:RL bH Spec.UM (λb=>S (vB a b)) (λb=>⟨0,dc g,Y (vB a b),h,G,J,c (vB a b),d,e,f⟩) j I R (vB a)=RR bH Spec.UM Spec.res (λb=>S (vB a b)) (λb=>⟨0,dc g,Y (vB a b),h,G,J,c (vB a b),d,e,f⟩) i Z (vB a):=by kernel_rfl):aI a S:=
 bK (v:=vB a) (S:=(λb=>S (vB a b))) (λb=>⟨0,dc g,Y (vB a b),h,G,J,c (vB a b),d,e,f⟩) j I R i Z a.b1 l k H (bU)
theorem oU{S:WB->Spec}(f:Nat)(g:Wy (uh))(i:uh)(h:AL->SL->AL)(k:aw a Y)(G:Wy (uh):=[])(J:Wy (Wy f8):=[])(I:uh:=[])(R:Wy f8:=[])(Z:AL->SL->SL:=g4 [])(b:WB->Wy TG:=λω=>[])(c d:Wy (uh):=[])(e:Wy (Wy f8):=[])(j:aG a b:=by trivial)
 (H:Yt bH Spec.UM (S a) ⟨0,dc f,Y a,g,G,J,b a,c,d,e⟩ i I R a=Yu bH Spec.UM Spec.res (S a) ⟨0,dc f,Y a,g,G,J,b a,c,d,e⟩ h Z a:=by kernel_rfl):aI a S:=
 Ra (u:=a) (S:=S a) ⟨0,dc f,Y a,g,G,J,b a,c,d,e⟩ i I R h Z k j H (bU)
theorem bT{S:WB->Spec}(g:Nat)(h:Wy (uh))(m:uh)(l:AL->SL->AL)(q:aw a Y)(G:Wy (uh):=[])(J:Wy (Wy f8):=[])(i:uh:=[])(j:Wy f8:=[])(k:AL->SL->SL:=g4 [])(c:WB->Wy TG:=λω=>[])(d e:Wy (uh):=[])(f:Wy (Wy f8):=[])(o:aG a c:=by trivial)
 (n:RL hT Spec.UM (λb=>S (vB a b)) (λb=>⟨0,dc g,Y (vB a b),h,G,J,c (vB a b),d,e,f⟩) m i j (vB a)=RR hT Spec.UM Spec.res (λb=>S (vB a b)) (λb=>⟨0,dc g,Y (vB a b),h,G,J,c (vB a b),d,e,f⟩) l k (vB a):=by kernel_rfl)
 (p:(S a).code= .block (dS (S a).code) (gS (S a).code):=by rfl):aI a S:=
 bK (v:=vB a) (S:=(λb=>S (vB a b))) (λb=>⟨0,dc g,Y (vB a b),h,G,J,c (vB a b),d,e,f⟩) m i j l k a.b1 q o n (oE p)
theorem sT{S:WB->Seg}(e:Nat)(g:Wy (uh))(k:uh)(j:AL->SL->AL)(m:aw a Y)(c:Wy (uh):=[])(d:Wy (Wy f8):=[])(h:uh:=[])(R:Wy f8:=[])(i:AL->SL->SL:=g4 [])(O:WB->Wy TG:=λω=>[])(M N:Wy (uh):=[])(V:Wy (Wy f8):=[])(Q:aG a O:=by trivial)
 (l:∀f,RL (bI f) Seg.UM (λb=>S (vB a b)) (λb=>⟨0,dc e,Y (vB a b),g,c,d,O (vB a b),M,N,V⟩) k h R (vB a)=RR (bI f) Seg.UM Seg.res (λb=>S (vB a b)) (λb=>⟨0,dc e,Y (vB a b),g,c,d,O (vB a b),M,N,V⟩) j i (vB a):=by intro f;kernel_rfl):aO a S:=
 Re (v:=vB a) (S:=(λb=>S (vB a b))) (λb=>⟨0,dc e,Y (vB a b),g,c,d,O (vB a b),M,N,V⟩) k h R j i a.b1 m Q l
end
variable {i:Nat}
section
theorem M5(l:0<=q)(m:q<H.size)(o:H.size<=2^24)(p:H[q.toNat]?=some (.int t i))(n:r≠0):
  aI u (λω=>jd a e h q s r ((iU t).fmod r) f g c H d):=by
 refine oT 0x1000111181bf111011130df221710f0120120012220121213330132010110121012 [[2],[],[2],[],[]] [1,0] (aE [28,6]) ?_ (Y:=λω=>[MZ H,JQ q H.size true,pI H q (.int t i),MY t,Cz (iU t) r])
 exact⟨λb k j=>ja o,λb k j=>i9 (decide_eq_true m),λb k j=>dZ l (by lia) p,λb k j=>yG,λb k j=>pH n,cg⟩
theorem M6(n:0<=q)(k:¬q<H.size)(m:H.size<=2^24)(l:r≠0):
  aI u (λω=>jd a e h q s r (((s+q*13).fdiv (1+q.fmod 3)).fmod r) f g c H d):=by
 have o:0<=q.fmod 3/\q.fmod 3<3:=by
  rw[Int.fmod_eq_emod_of_nonneg _ (by decide)];exact⟨Int.emod_nonneg _ (by decide),Int.emod_lt_of_pos _ (by decide)⟩
 refine oT 0x1000111181bf22ff12415f10050ef01206f22012210f01302f10121012 [[2],[],[],[],[]] [1,0] (aE [72,6]) ?_ (Y:=λω=>[MZ H,JQ q H.size false,Rb q 13,Rc (s+q*13) (1+q.fmod 3),Cz ((s+q*13).fdiv (1+q.fmod 3)) r])
 exact⟨λb j i=>ja m,λb j i=>i9 (decide_eq_false k),λb j i=>yF (.of_right (by decide+kernel)),λb j i=>rj (by omega) (by omega),λb j i=>pH l,cg⟩
variable {place fb n:Int}
theorem pN{sc t3:Nat}{t1 t2 ep:Nat}{Vc:Nat}(c:0<=place)(e:H.size<=2^24)(g:hB H)(d:n≠0):
  OK u (jd a sc t3 place fb n (dD H place fb n) t1 t2 ep H Vc):=by
 by_cases b:place<H.size
 ·obtain⟨h,i,f⟩:=g place.toNat (by lia);have:dD H place fb n=(iU h).fmod n:=by
   unfold dD intAt;rw[if_pos b,f]
  rw[this];exact M5 c b e f d
 ·have:dD H place fb n=((fb+place*13).fdiv (1+place.fmod 3)).fmod n:=by
   unfold dD;rw[if_neg b]
  rw[this];exact M6 c b e d
theorem l6{vs:ug}(a:0<n):0<=dD vs place fb n/\dD vs place fb n<n:=by unfold dD;split<;>(rw[Int.fmod_eq_emod_of_nonneg _ (by lia)];exact⟨Int.emod_nonneg _ (by lia),Int.emod_lt_of_pos _ a⟩)
end
variable {T:Fin 16}
section
noncomputable abbrev U:=TU
noncomputable def M7(b:uk)(a:Nat):ug:=match(b[a]?.getD default).data with
 | .seq c _=>c
 |_=> #[]
noncomputable def lk(c:uk)(a b:Nat):Nat:=df (((M7 c a)[b]?).getD .none)
noncomputable def JS(d:uk)(b c:Nat):Nat:=match((M7 d b)[c]?).getD .none with
 | .ref a=>a
 |_=>0
noncomputable def dM(a:Fin 16):UInt8:=if a.val<10 then UInt8.ofNat (48+a.val)else UInt8.ofNat (87+a.val)
noncomputable def rD(a:Fin 16):Int:=((dM a).toNat:Nat)
noncomputable def l7(a b:Fin 16)(d e c:Nat):gi:=cm #[.int (rD a) d,.int (rD b) e] c
noncomputable def M8(h a f:Nat)(d e:Fin 16)(i j g:Nat)(b c:UInt8):Spec:=
 ⟨um "bytes.__new__.loop" [.type "bytes",.ref a,.ref f],12,none,UM [(a,dp h a 2),(h,l7 d e i j g),(f,bG #[b,c])] (λω=>[dL "list_iterator" [.none,.int 2 0],l7 d e i j g,bG #[b,c]]) (λω=>[]),λk ω=>uj (.bytes #[b,c] (k 0))⟩
variable {h:UInt8} {b:Fin 16}
theorem Hc{i:UInt8}:aI u (λω=>M8 e g f b T d c a h i):=
 oU 0x1110111112110015 [] [2,1,0] (aE [2]) trivial (Y:=λω=>[])
theorem vl{a:Fin 16->Prop}(d:a 0)(e:a 1)(l:a 2)(m:a 3)(o:a 4)(p:a 5)(q:a 6)(r:a 7)(s:a 8)(t:a 9)(f:a 10)(g:a 11)(h:a 12)(i:a 13)(j:a 14)(k:a 15):∀b,a b:=by
 rintro⟨b,v⟩
 match b,v with
 |0,_=>exact d|1,_=>exact e|2,_=>exact l|3,_=>exact m|4,_=>exact o|5,_=>exact p|6,_=>exact q|7,_=>exact r
 |8,_=>exact s|9,_=>exact t|10,_=>exact f|11,_=>exact g|12,_=>exact h|13,_=>exact i|14,_=>exact j|15,_=>exact k
 |n+16,c=>exact absurd c (by lia)
noncomputable def M9(g b e:Nat)(d a:Fin 16)(h i f:Nat)(c:UInt8):Spec:=
 ⟨um "bytes.__new__.loop" [.type "bytes",.ref b,.ref e],24,none,UM [(b,dp g b 1),(g,l7 d a h i f),(e,bG #[c])] (λω=>[dL "list_iterator" [.none,.int 2 0],l7 d a h i f,bG #[c,dM a]]) (λω=>[]),λj ω=>uj (.bytes #[c,dM a] (j 0))⟩
noncomputable def q9:Nat:=0x1110111112113332
theorem Hd(i:Fin 16):aI u (λω=>M9 e g f b i d c a h):=by
 refine oU q9 [[0,1,2]] [2,1,0] (aE [0]) ⟨λj l k=>Hc,cg⟩ (Y:=λω=>[λj l k=>M8 e g f b i d c a h (dM i)]) (H:= ?_)
 revert i;refine vl ?_ ?_ ?_ ?_ ?_ ?_ ?_ ?_ ?_ ?_ ?_ ?_ ?_ ?_ ?_ ?_<;>kernel_rfl
noncomputable def Na(f c d:Nat)(a b:Fin 16)(g h e:Nat):Spec:=
 ⟨um "bytes.__new__.loop" [.type "bytes",.ref c,.ref d],36,none,UM [(c,dp f c 0),(f,l7 a b g h e),(d,bG #[])] (λω=>[dL "list_iterator" [.none,.int 2 0],l7 a b g h e,bG #[dM a,dM b]]) (λω=>[]),λi ω=>uj (.bytes #[dM a,dM b] (i 0))⟩
theorem He(b:Fin 16):aI u (λω=>Na e g f b T d c a):=by
 refine oU q9 [[0,1,2]] [2,1,0] (aE [0]) ⟨λh j i=>Hd T,cg⟩ (Y:=λω=>[λh j i=>M9 e g f b T d c a (dM b)]) (H:= ?_)
 revert b;refine vl ?_ ?_ ?_ ?_ ?_ ?_ ?_ ?_ ?_ ?_ ?_ ?_ ?_ ?_ ?_ ?_<;>kernel_rfl
noncomputable def SE(d:Nat)(a b:Fin 16)(e f c:Nat):Spec:=
 ⟨um "bytes.__new__" [.type "bytes",.ref d],60,none,UM [(d,l7 a b e f c)] (λω=>[l7 a b e f c]) (λω=>[]),λg ω=>uj (.bytes #[dM a,dM b] (g 0))⟩
noncomputable def Q0:Nat:=0x1300f10111012202
theorem Nb:aI u (λω=>SE e b T d c a):=by refine oT Q0 [[1,2,0]] [0] (aE [2]) ⟨λf h g=>He b,cg⟩ (Y:=λω=>[λf h g=>Na e (ad f 1) (ad f 2) b T d c a])
noncomputable def eF(a b:Fin 16):cl:=Builtin.Bytes.repeated #[dM a,dM b] 20
noncomputable def signs:cl:= #[48,49,50,51,52,53,54,55,56,57,97,98,99,100,101,102]
noncomputable def yR(a:Fin 16):U:=λb ω ω=>fh "bytes.__getitem__" [.bytes signs (tk b 0),.int (a.val:Nat) (tk b 1)] [] λc=>.int ((dM a).toNat:Nat) (c 0)
theorem vm(a:Fin 16):∀b d c,OK u (yR a b d c):=λb d c=>
 iu (by omega) (by omega) (by revert a;decide)
noncomputable def yS(a b:Fin 16):U:=λc ω ω=>fh "bytes.__mul__" [.bytes #[dM a,dM b] (tk c 0),.int (20:Nat) (tk c 1)] [] λd=>.bytes (eF a b) (d 0)
theorem yT(d e:Fin 16):∀a c b,OK u (yS d e a c b):=λa c b=>
 CD rfl (by decide) (by simp) (by simp) (by unfold eF Builtin.Bytes.repeated;simp[List.replicate])
noncomputable def vn(c b:Nat)(g f:Int)(j k:Fin 16)(l h d:Nat)(i:ug)(e:Nat):Spec:=
 ⟨ul 930 [.ref c],70,none,UM [(c,hM b g f l h d),(b,cm i e)] (λa=>[hM b (g+1+1) f (a 1) h d,cm i e]) (λω=>[]),λa ω=>uj (.bytes (eF j k) (a 0))⟩
theorem na{b:Nat}{e:Fin 16}(m:0<=r)(k:H.size<=2^24)(l:hB H)(o:dD H r q 16=(T.val:Nat))(p:dD H (r+1) q 16=(e.val:Nat)):
  aI u (λω=>vn b g r q T e d c a H f):=by
 refine oU 0x10060ff105f1011130bf206f208f102f1012 [[1,2],[1,2],[],[],[0],[]] [1,0] (aE [92,14]) ⟨λh i j=> ?_,λh i j=> ?_,vm T,vm e,λh i j=>Nb,yT T e,cg⟩ (Y:=λω=>[λh i j=>jd b g (tk h 1) r q 16 (T.val:Nat) d c a H f,λh i j=>jd b g (tk h 1) (r+1) q 16 (e.val:Nat) (lk i 0 1) c a H f,yR T,yR e,λh i j=>SE (ad h 1) T e (lk i 0 0) (lk i 0 1) (eJ i 0),yS T e])
 ·have:=pN (u:=u) (a:=b) (sc:=g) (t3:=tk h 1) (t1:=d) (t2:=c) (ep:=a) (Vc:=f) m k l (n:=16) (fb:=q) (by decide);rw[o]at this;exact this
 ·have:=pN (u:=u) (a:=b) (sc:=g) (t3:=tk h 1) (t1:=lk i 0 1) (t2:=c) (ep:=a) (Vc:=f) (place:=r+1) (by lia) k l (n:=16) (fb:=q) (by decide);rw[p]at this;exact this
end
noncomputable def oh:Wy Int->(Nat->Nat)->ui
 |[],_=>[]
 |b::c,a=>.int b (a 0)::oh c (cy a)
theorem vo:∀(a:Wy Int) (c:Nat->Nat) (d:Nat),(oh a c)[d]?=(a[d]?).map λb=>.int b (c d)
 |[],_,_=>by simp[oh]
 |b::a,c,0=>by simp[oh]
 |b::a,c,d+1=>by
  simp only[oh,List.getElem?_cons_succ,vo a (cy c) d];rfl
noncomputable def iB(c:uk)(b:Nat):Nat->Nat:=λa=>lk c b a
noncomputable def vp(b:Wy cl)(c:Nat):U:=λa d f=>fh "list.__getitem__" [.ref (ad a 0),.int (c:Nat) (tk a 1)] [(ad a 0,cm ⟨d3 b (iB d 0)⟩ (eJ d 0))] λe=>.bytes (b.getD c #[]) (e 0)
noncomputable def FU(b:Wy Int)(c:Nat):U:=λa d f=>fh "list.__getitem__" [.ref (ad a 0),.int (c:Nat) (tk a 1)] [(ad a 0,cm ⟨oh b (iB d 0)⟩ (eJ d 0))] λe=>.int (b.getD c 0) (e 0)
theorem pO{c:WJ}{g:WG}{b:Nat->WA gi}{d:String}{e:Wy (Nat×gi)}{a f:(Nat->Nat)->Wz}(p:ct c g b (fh d L e a))(k:∀i,∃j,a i=f j):ct c g b (fh d L e f):=λl R t r o n m s q=>p l R t r o n m s λi v s1 h=>by
 obtain⟨j,k⟩:=k i;refine(?_:R (.ok (.ret (a i))) s1);rw[k];exact q j v s1 ⟨h.step,h.len,h.post,h.Vi,h.UQ,h.new,h.VK,h.UW,h.Vj,h.US,h.bare⟩
theorem he{b:Wy cl}(f:a<b.length)(h:b.length<2^24):∀d c e,OK u (vp b a d c e):=λd c e=>by
 refine pO (dZ (v:= .bytes (b.getD a #[]) (iB c 0 a)) (by lia) (by lia) ?_) λg=>⟨λω=>iB c 0 a,rfl⟩
 rw[Int.toNat_natCast];refine(?_:(d3 b (iB c 0)).toArray[a]?=_);rw[List.getElem?_toArray,kK,List.getElem?_eq_getElem f,List.getD_eq_getElem?_getD,List.getElem?_eq_getElem f];rfl
theorem yU{b:Wy Int}(f:a<b.length)(h:b.length<2^24):∀d c e,OK u (FU b a d c e):=λd c e=>by
 refine pO (dZ (v:= .int (b.getD a 0) (iB c 0 a)) (by lia) (by lia) ?_) λg=>⟨λω=>iB c 0 a,rfl⟩
 rw[Int.toNat_natCast];refine(?_:(oh b (iB c 0)).toArray[a]?=_);rw[List.getElem?_toArray,vo,List.getElem?_eq_getElem f,List.getD_eq_getElem?_getD,List.getElem?_eq_getElem f];rfl
noncomputable def tG:Wy cl:=[#[65,32,60,97,64,98,62],#[74,111,32,68,111,101,32,60,62],#[195,169,32,120,32,60,120,32,121,62]]
noncomputable def dt:Wy Int:=[0,1700000000,9223372036854775807,5]
noncomputable def FV:Wy (cl×Int×Bool):=[(#[43,48,48,48,48],0,false),(#[45,48,48,48,48],0,true),(#[43,48,49,51,48],5400,false),(#[45,48,55,51,48],-27000,false),(#[43,49,52,48,48],50400,false),(#[45,45,55,48,48],25200,true)]
noncomputable def aC(a:Fin 6):cl×Int×Bool:=FV.getD a.val (#[],0,false)
noncomputable def gU(a:Fin 6)(b c:Nat):gi:=eE #[.bytes (aC a).1 b,.int (aC a).2.1 c,.bool (aC a).2.2]
noncomputable def dJ(a:Fin 3)(b:Fin 4)(e:Nat)(c d:Nat):gi:=eE #[.bytes (tG.getD a.val #[]) c,.int (dt.getD b.val 0) d,.ref e]
noncomputable def vq(c b:Nat)(g f:Int)(j:Fin 3)(k:Fin 4)(m:Fin 6)(l h d:Nat)(i:ug)(e:Nat):Spec:=
 ⟨ul 937 [.ref c],30,none,UM [(c,hM b g f l h d),(b,cm i e)] (λa=>[hM b (g+1+1+1) f (a 2) h d,cm i e]) (λa=>[(a 0,dJ j k (a 1) (a 3) (a 4)),(a 1,gU m (a 5) (a 6))]),λa ω=>uj (.ref (a 0))⟩
theorem kN{a:Int}(j:0<=q)(l:H.size<=2^24)(m:hB H)(k:a≠0)(b:dD H q r a=s):OK u (jd c f i q r a s h g d H e):=by have:=pN (u:=u) (a:=c) (sc:=f) (t3:=i) (t1:=h) (t2:=g) (ep:=d) (Vc:=e) j l m (n:=a) (fb:=r) k;rw[b]at this;exact this
noncomputable def q3:Nat:=0x113cf10072af370ff33004423f2014444306f107f01100000c304f111010
theorem nb{a:Fin 3}{b:Fin 4}(m:Fin 6)(s:0<=q)(n:H.size<=2^24)(o:hB H)(t:dD H q r 3=(a.val:Nat))(v:dD H (q+1) r 4=(b.val:Nat))(p:dD H (q+1+1) r 6=(m.val:Nat)):
  aI u (λω=>vq c f q r a b m h g d H e):=by
 have i:aw u (λω=>[λj k l=>jd c f (tk j 1) q r 3 (a.val:Nat) h g d H e,vp tG a.val,λj k l=>jd c f (tk j 1) (q+1) r 4 (b.val:Nat) (lk k 0 1) g d H e,FU dt b.val,λj k l=>jd c f (tk j 1) (q+1+1) r 6 (m.val:Nat) (lk k 0 1) g d H e]):=⟨λj k l=>kN s n o (by decide) t,he a.isLt (by decide),λj k l=>kN (by lia) n o (by decide) v,yU b.isLt (by decide),λj k l=>kN (by lia) n o (by decide) p,cg⟩
 clear p;revert i
 match m with
 |0=>exact λi=>oU q3 [[3,4],[0],[4,5],[0],[12,13]] [1,0,14,7] (aE [435,115,451,9,43,83,99]) i
 |1=>exact λi=>oU q3 [[3,4],[0],[4,5],[0],[12,13]] [1,0,14,8] (aE [435,163,451,9,43,131,147]) i
 |2=>exact λi=>oU q3 [[3,4],[0],[4,5],[0],[12,13]] [1,0,14,9] (aE [435,211,451,9,43,179,195]) i
 |3=>exact λi=>oU q3 [[3,4],[0],[4,5],[0],[12,13]] [1,0,14,10] (aE [435,275,451,9,43,227,259]) i
 |4=>exact λi=>oU q3 [[3,4],[0],[4,5],[0],[12,13]] [1,0,14,11] (aE [435,323,451,9,43,291,307]) i
 |5=>exact λi=>oU q3 [[3,4],[0],[4,5],[0],[12,13]] [1,0,14,12] (aE [435,371,451,9,43,339,355]) i
noncomputable def je(a c:cl):U:=λb ω ω=>fh "bytes.__add__" [.bytes a (tk b 0),.bytes c (tk b 1)] [] λd=>.bytes (a++c) (d 0)
theorem eG(d:k.size+l.size<=16777216):∀a c b,OK u (je k l a c b):=λa c b=>CE rfl (by rw[Array.size_append];exact d)
noncomputable def xg(a:Fin 4):cl:=match a with
 |0=> #[48]
 |1=> #[49,55,48,48,48,48,48,48,48,48]
 |2=> #[57,50,50,51,51,55,50,48,51,54,56,53,52,55,55,53,56,48,55]
 |3=> #[53]
noncomputable def dv(a:Fin 3):cl:=tG.getD a.val #[]
noncomputable def e1(a:Fin 3):cl:=dv a++ #[32]
noncomputable def e2(a:Fin 3)(b:Fin 4):cl:=e1 a++xg b
noncomputable def e3(a:Fin 3)(b:Fin 4):cl:=e2 a b++ #[32]
noncomputable def dk(a:Fin 3)(b:Fin 4)(c:Fin 6):cl:=e3 a b++(aC c).1
noncomputable def Hf(e d:Nat)(a:Fin 3)(b:Fin 4)(c:Fin 6)(f g h i:Nat):Spec:=
 ⟨ul 944 [.ref e],30,none,UM [(e,dJ a b d f g),(d,gU c h i)] (λω=>[dJ a b d f g,gU c h i]) (λω=>[]),λj ω=>uj (.bytes (dk a b c) (j 0))⟩
noncomputable def q5:Nat:=0x10001133f22201210f09f809f1011111311001200f4012004d02f1012012466601616012
theorem xh{a:Fin 3}{b:Fin 4}{c:Fin 6}:aI u (λω=>Hf d i a b c e f g h):=by
 have j:aw u (λω=>[je (dv a) #[32],je (e1 a) (xg b),je (e2 a b) #[32],je (e3 a b) (aC c).1]):=⟨eG (by revert a;decide),eG (by revert a b;decide),eG (by revert a b;decide),eG (by revert a b c;decide),cg⟩
 revert j
 match b with
 |0=>exact λj=>oT q5 [[],[],[],[]] [1,0] (aE [32]) j
 |1=>exact λj=>oT q5 [[],[],[],[]] [1,0] (aE [32]) j
 |2=>exact λj=>oT q5 [[],[],[],[]] [1,0] (aE [32]) j
 |3=>exact λj=>oT q5 [[],[],[],[]] [1,0] (aE [32]) j
section
noncomputable def Nc:PySem.Expr->Nat->PySem.Expr
 | .BinOp c _ _ _,0=>c
 | .BinOp _ _ d _,_=>d
 | .Call g _ _ _,0=>g
 | .Call _ a _ _,b+1=>(a[b]?).getD default
 | .List a _,b=>(a[b]?).getD default
 | .Tuple a _ _,b=>(a[b]?).getD default
 | .Attribute e _ _,_=>e
 | .Subscript e _ _,0=>e
 | .Subscript _ e _,_=>e
 | .IfExp c _ _ _,0=>c
 | .IfExp _ d _ _,1=>d
 | .IfExp _ _ f _,_=>f
 | .Compare c _ _ _,0=>c
 | .Compare _ _ a _,b+1=>(a[b]?).getD default
 | .BoolOp _ a _,b=>(a[b]?).getD default
 | .UnaryOp _ e _,_=>e
 |e,_=>e
noncomputable def Nd:PySem.Expr->uh->PySem.Expr
 |e,[]=>e
 |e,a::b=>Nd (Nc e a) b
noncomputable def T5:Stmt->PySem.Expr
 | .Return (some a) _=>a
 | .Assign _ a _=>a
 | .Expr a _=>a
 | .If a _ _ _=>a
 | .For _ a _ _ _=>a
 | .While a _ _ _=>a
 |_=>default
noncomputable def tH(a b:uh):PySem.Expr:=Nd (T5 (mj PW.main.body a)) b
noncomputable def Qp:PySem.Expr->Scope
 | .ListComp _ _ a _=>a
 | .GeneratorExp _ _ a _=>a
 |_=>default
noncomputable def vr(a:uh):Scope:=match mj PW.main.body a with
 | .FunctionDef _ _ _ _ _ _ b .. =>b
 |_=>default
noncomputable def xi(e:uh)(f:Str)(d c a:Nat)(b:Wy (Str×Addr)):Env:=⟨vr e,a,3,b,f,some d,.ref c,some a,0⟩
noncomputable def yV(c:PySem.Expr)(e:Str)(b d a:Nat):Env:=⟨Qp c,d,3,[],e,none,.ref b,some a,0⟩
noncomputable def lq(a:String):Str:=Str.ofString a
noncomputable def dx(b:WC)(a:String)(c:Nat)(d:Wz):WL:=⟨PyData.keyHash b (lq a),.str (lq a) c,d⟩
noncomputable def fk(b:Wy WL)(a:Nat):gi:=⟨.type "dict",none,.dict b.toArray a,#[]⟩
noncomputable def eH(a:dh):cl:=((a.1++ #[32])++jc a.2 #[10] #[10,32])++ #[10]
noncomputable def vt:PySem.Expr:=tH [64,0] [0,0,1]
noncomputable def vu(c b d a:Nat):Code:= .compLoop vt 0 (.ref c) (.ref b) (yV vt (lq "_law_rows.<locals>.") 948 d a)
noncomputable def kO(a:WC)(c:WA (Wz×Wz))(d e:Nat):gi:=match c with
 |none=>fk [] 0
 |some (b,f)=>fk [dx a "head" d b,dx a "value" e f] 2
noncomputable def jE(a:ug)(c:Wy dh)(b:AL):ug:=a++(⟨d3 (c.map eH) b⟩:ug)
noncomputable def kP(b:WC)(e:WA (Wz×Wz))(f g:Nat)(d:Wy dh)(a:AL):gi:=match d.getLast? with
 |none=>kO b e f g
 |some c=>kO b (some (.bytes c.1 (a 0),.bytes c.2 (a 1))) (a 2) (a 3)
noncomputable def mD(c:WC)(a b d i h f g:Nat)(m e:ug)(j:WA (Wz×Wz))(k l:Nat):Wy (Nat×gi):=[(a,dp b a h),(b,cm m f),(d,cm e g),(i,kO c j k l)]
noncomputable def rE(d:WC)(f:Nat)(c e:ug)(b:Wy dh)(g:WA (Wz×Wz))(h i:Nat)(a:AL):uk:=[dL "list_iterator" [.none,.int c.size 0],cm c f,cm (jE e b (cn 5 a)) (a 4),kP d g h i b a]
noncomputable def tI(c:WC)(g p d h b o f n:Nat)(a e:ug)(l q:Wy dh)(i:WA (Wz×Wz))(j k:Nat):Spec:=
 ⟨vu g d h b,40,some b,⟨pl (mD c g p d h o f n a e i j k),[],λm ω=>rE c f a e q i j k m,nn,nn,nn,[⟨a,l⟩],nn⟩,λω ω=>.ok .next⟩
noncomputable def FW(b d c:cl):U:=λa g f=>fh "bytes.replace" [.bytes b (tk a 0),.bytes d (tk a 1),.bytes c (tk a 2)] [] λe=>.bytes (jc b d c) (e 0)
noncomputable def arg(c:Code)(a:Nat):Wz:=(lW c)[a]?.getD .none
noncomputable def CJ(b:ug):U:=λa c d=>M2 (ad a 0) b (eJ c 0) (arg a 1)
noncomputable def dN(d:gi)(c:Nat):Nat:=match d.data with
 | .dict b _=>(match b.toList[c]? with|some a=>df a.key|none=>0)
 |_=>0
noncomputable def CL(d:gi)(c:Nat):Nat:=match d.data with
 | .dict b _=>(match b.toList[c]? with|some a=>df a.val|none=>0)
 |_=>0
noncomputable def l8(c:uk)(b a:Nat):Wz:=match(c[b]?.getD default).data with
 | .fields d=>(d.toList[a]?).getD .none
 |_=>.none
noncomputable def t5(d:WC)(j k f l c i h:Nat)(n g:ug)(e m:Wy dh)(b:dh):U:=λo a p=>
 tI d j k f l c (i+1) h (eJ a 2) n (g.push (.bytes (eH b) (df (l8 a 4 1)))) e m (some (.bytes b.1 (CL (a[3]?.getD default) 0),.bytes b.2 (CL (a[3]?.getD default) 1))) (dN (a[3]?.getD default) 0) (dN (a[3]?.getD default) 1)
noncomputable def Hh(e:WC)(i q f j d n h m:Nat)(c g:ug)(k r:Wy dh)(l:Nat)(b:dh)(s:WA (Wz×Wz))(t v:Nat)(o p:AL->Nat):Spec:=
 ⟨vu i f j d,40,some d,⟨pl (mD e i q f j n h m c g s t v),[],λa ω=>rE e h c (g.push (.bytes (eH b) (a 0))) r (some (.bytes b.1 (a 1),.bytes b.2 (a 2))) (o a) (p a) (cn 5 a),nn,nn,nn,[⟨c,k⟩,⟨#[.ref l],[b]⟩],nn⟩,λω ω=>.ok .next⟩
noncomputable def Hi(i:WC)(e f l m h d c:Nat)(g b:ug)(j n:Wy dh)(k:Nat)(a:dh):Wy U:=[λo q p=>xf e f d g c (.ref k),je a.1 #[32],FW a.2 #[10] #[10,32],je (a.1++ #[32]) (jc a.2 #[10] #[10,32]),je ((a.1++ #[32])++jc a.2 #[10] #[10,32]) #[10],CJ b,t5 i e f l m h d c g b j n a]
noncomputable def Hj(c:WC)(h n d i b f g:Nat)(a e:ug)(m:Wy dh)(j:WA (Wz×Wz))(k l:Nat):Spec:=
 ⟨vu h d i b,40,some b,⟨pl (mD c h n d i a.size f g a e j k l),[],λo ω=>[dL "list_iterator" [.none,.int a.size 0],cm a f,cm e g,kO c j k l],nn,nn,nn,[⟨a,m⟩],nn⟩,λω ω=>.ok .next⟩
noncomputable def kg(a:dh):Prop:=(eH a).size<=1000000/\a.2.size+(Builtin.Bytes.occurrences a.2 #[10] 0 a.2.size).length*2<=1000000
theorem yW{a:cl}(e:k.isEmpty=false)(f:a.size+(Builtin.Bytes.occurrences a k 0 a.size).length*l.size<=16777216)(g:(jc a k l).size<=16777216):∀b d c,OK u (FW a k l b d c):=λb d c=>CG e rfl f g
theorem gu(a:ug)(c:Wz)(b:ui):(a.push c)++(⟨b⟩:ug)=a++(⟨c::b⟩:ug):=by apply Array.ext';simp
noncomputable def pP(a:WA (Wz×Wz)):Prop:=a=none\/∃b c d e,a=some (.bytes b c,.bytes d e)
variable {d:Type}
theorem cY{c a:d}{b e:Wy d}(f:c=a)(g:b=e):c::b=a::e:=by rw[f,g]
theorem kQ(b:d)(a:Wy d):(b::a).getLast?=some (a.getLast?.getD b):=by
 cases a with
 |nil=>rfl
 |cons c a=>rw[List.getLast?_cons_cons];cases e:(c::a).getLast? with
  |none=>simp at e
  |some f=>rfl
noncomputable def Q1:Nat:=0x1310112101f3e8e1000bf01f0af11110111113e8e111001777770127402f201622
theorem rF{it l acc loc L d ep Vc:Nat}{b:ug}{R rs:Wy dh}{a:dh}{e:WA (Wz×Wz)}{t1 t2:Nat}(p:pP e)(q:H[d]?=some (.ref c))(n:kg a)(o:b.size<=1000000)
 (r:∀k v w m x,pP k->OK u (tI (Pm u) it l acc loc L (d+1) ep m H (b.push x) R rs k v w)):∃s t,aI u (λu=>Hh (Pm u) it l acc loc L d ep Vc H b R rs c a e t1 t2 s t):=by
 have C:(eH a).size=a.1.size+1+(jc a.2 #[10] #[10,32]).size+1:=by
  simp[eH];lia
 obtain⟨y,z⟩:=n;have i:aw u (λu=>Hi (Pm u) it l acc loc L d ep H b R rs c a):=⟨λg j h=>iy q,eG (by refine(?_:a.1.size+1<=_);lia),yW rfl (by refine(?_:a.2.size+_*2<=_);lia) (by lia),eG (by rw[Array.size_append];refine(?_:a.1.size+1+_<=_);lia),eG (by rw[Array.size_append,Array.size_append];refine(?_:a.1.size+1+_+1<=_);lia),λg j h=>lC o,λg j h=>r _ _ _ _ _ (.inr ⟨_,_,_,_,rfl⟩),cg⟩
 rcases p with rfl|⟨A,D,G,I,rfl⟩
 ·exact⟨λf=>f 3,λf=>f 4,oT Q1 [[0,1],[],[],[],[],[5],[3,4,5,6]] [3,2,1,0] (dT [93,27,35,49,51] λf=>dI (odd (odd (cn 1 (odd (odd (cn 2 (odd (cn 27 (odd f)))))))))) i (J:=[[],[],[],[],[],[],[.UO 0]])⟩
 ·exact⟨λω=>t1,λω=>t2,oT Q1 [[0,1],[],[],[],[],[5],[3,4,5,6]] [3,2,1,0] (dT [93,27,35,0,0] λf=>dI (odd (odd (cn 1 (odd (odd (cn 2 (odd (cn 27 (odd f)))))))))) i (J:=[[],[],[],[],[],[],[.UO 0]])⟩
theorem rG{u:WB}{c b e f d a:Nat}{H:ug}{M:Wy dh}(y:∀l∈M,kg l):∀(j:Wy dh) (h k:Nat) (i:ug) (n:WA (Wz×Wz)) (o p:Nat),M.drop h=j->h<=M.length->i.size+j.length<=1000000->pP n->
  OK u (tI (Pm u) c b e f d h a k H i M j n o p)
 |[],h,k,i,n,o,p,m,N,A,C=>by
  refine ct.member (xs:=H) (rows:=M) (.head _) λQ ω=> ?_
  have O:h=H.size:=by
   have:=congrArg List.length m;simp at this;lia
  subst O;have s:aI u (λu=>Hj (Pm u) c b e f d a k H i M n o p):=by
   refine oU 0x13101121 [[0,1]] [3,2,1,0] (aE []) ⟨λG P J=>fP (by simp),cg⟩ (Y:=λω=>[λG P J=>jM c b H.size H a])
  refine s.alt rfl rfl rfl rfl rfl rfl λg r=>⟨λω=>k,r,rfl, ?_,rfl,rfl,rfl,rfl⟩
  refine(?_:[_,_,_,_]=[_,_,_,_]);rw[show jE i [] (cn 5 λω=>k)=i by unfold jE;simp[d3]]
  rfl
 |l::j,h,k,i,n,o,p,m,N,A,C=>by
  refine ct.member (xs:=H) (rows:=M) (.head _) λQ R=> ?_
  have T:h<M.length:=by
   have:=congrArg List.length m;simp at this;lia
  have w:M[h]?=some l:=by
   have:=congrArg (·[0]?) m;simpa[List.getElem?_drop]using this
  obtain⟨v,t⟩:∃v,H[h]?=some v:=⟨H[h]'(by lia),by simp[show h<H.size by lia]⟩;obtain⟨D,rfl⟩:=R h v t;have F:l∈M:=t9 w;have a3:i.size+j.length+1<=1000000:=by simpa[Nat.add_assoc]using A
  obtain⟨V,W,s⟩:=rF (u:=u) (it:=c) (l:=b) (acc:=e) (loc:=f) (L:=d) (ep:=a) (Vc:=k) (R:=M) (rs:=j) (t1:=o) (t2:=p) C t (y l F) (by lia) λX Z a0 I a1 L=>rG y j (h+1) I (i.push a1) X Z a0 (by
   have:=congrArg (List.drop 1) m;simpa[List.drop_drop]using this) T (by rw[Array.size_push];lia) L
  refine ct.more (bs:=[⟨H,M⟩,⟨#[.ref D],[l]⟩]) (s.alt rfl rfl rfl rfl rfl rfl λg r=> ?_) λa2 x B q=> ?_
  ·cases z:j.getLast? with
   |none=>
    refine⟨cons (g 1) (cons (g 2) (cons (V g) (cons (W g) (cons (g 9) (cons (g 0) (cn 10 g)))))),r,rfl, ?_,rfl,rfl,rfl,rfl⟩;refine(?_:[_,_,_,_]=[_,_,_,_]);refine cY rfl (cY rfl (cY ?_ (cY ?_ rfl)))
    ·refine(?_:cm _ _=cm _ _);unfold jE;rw[gu];rfl
    ·unfold kP;rw[kQ,z];rfl
   |some a4=>
    refine⟨cons (g 5) (cons (g 6) (cons (g 7) (cons (g 8) (cons (g 9) (cons (g 0) (cn 10 g)))))),r,rfl, ?_,rfl,rfl,rfl,rfl⟩;refine(?_:[_,_,_,_]=[_,_,_,_]);refine cY rfl (cY rfl (cY ?_ (cY ?_ rfl)))
    ·refine(?_:cm _ _=cm _ _);unfold jE;rw[gu];rfl
    ·unfold kP;rw[kQ,z];rfl
  ·rcases t6 q with rfl|q
   ·exact x _ (.head _)
   ·rw[List.mem_singleton]at q;subst q;exact(x _ (.head _)).at t w
end
variable {M:Wy dh}
noncomputable def yX(a:Wy dh):dh:=a.getLast?.getD (#[],#[])
noncomputable def xj(d:WC)(e:Nat)(c:ug)(b:Wy dh)(a:AL):uk:=[dL "list_iterator" [.none,.int c.size 0],cm c e,cm ⟨d3 (b.map eH) (cn 5 a)⟩ (a 4),kO d (some (.bytes (yX b).1 (a 0),.bytes (yX b).2 (a 1))) (a 2) (a 3)]
noncomputable def nc(f:WC)(i:Bool)(c l b d a h k:Nat)(e:ug)(g:Wy dh):Spec:=
 ⟨if i then .compStart vt 0 (.ref c) (.ref b) (yV vt (lq "_law_rows.<locals>.") 948 d a)else vu c b d a,if i then 44 else 40,some a,⟨pl (mD f c l b d 0 h k e #[] none 0 0),[],λj ω=>xj f h e g j,nn,nn,nn,[⟨e,g⟩],nn⟩,λω ω=>.ok .next⟩
theorem rH(j:∀m∈M,kg m)(l:M≠[])(k:M.length<=1000000):OK u (nc (Pm u) false g c f h e a d H M):=by
 refine(rG j M 0 d #[] none 0 0 rfl (Nat.zero_le _) (by simpa using k) (.inl rfl)).alt rfl rfl rfl rfl rfl rfl λi n=>⟨i,n,rfl, ?_,rfl,rfl,rfl,rfl⟩
 refine(?_:[_,_,_,_]=[_,_,_,_]);refine cY rfl (cY rfl (cY ?_ (cY ?_ rfl)))
 ·refine(?_:cm _ _=cm _ _);unfold jE;simp
 ·unfold kP yX;cases b:M.getLast? with
  |none=>simp at b;exact absurd b l
  |some o=>rfl
theorem xk(l:∀o∈M,kg o)(n:M≠[])(m:M.length<=1000000):aI u (λu=>nc (Pm u) true g c f h e a d H M):=by
 obtain⟨p,b1,b2⟩:=u;cases b2 with
 |true=>exact oT 0x112 [[0,1,2,3]] [3,2,1,0] (dT [] λb=>dI b) ⟨λi k j=>rH l n m,cg⟩ (Y:=λu=>[λi k j=>nc (Pm u) false g c f h e a d H M]) (J:=[[.UO 0]])
 |false=>exact oT 0x1111011112 [[0,1,2,3]] [3,2,1,0] (dT [] λb=>dI b) ⟨λi k j=>rH l n m,cg⟩ (Y:=λu=>[λi k j=>nc (Pm u) false g c f h e a d H M]) (J:=[[.UO 0]])
noncomputable def eI(b:cl)(a:Wy cl):cl:=Builtin.Bytes.joined b a
noncomputable def FX(c:cl)(b:Wy cl)(e:Wy AL->AL):U:=λa g f=>fh "bytes.join" [.bytes c (tk a 0),.ref (ad a 1)] [(ad a 1,cm ⟨d3 b (e f)⟩ (eJ g 0))] λd=>.bytes (eI c b) (d 0)
theorem yY{a:Wy AL->AL}(e:A≠[])(f:(eI k A).size<=16777216)(g:A.foldl (· + ·.size) (k.size*(A.length-1))<=16777216):∀b d c,OK u (FX k A a b d c):=λb d c=>bh e rfl f g
noncomputable def ng(a:Wy dh):cl:=eI #[] (a.map eH)
noncomputable def cz(a:Wy dh)(b:cl):cl:=(ng a++ #[10])++b
noncomputable def cH(a:Wy AL)(b:Nat):AL:=(a[b]?).getD λω=>0
noncomputable def eN(d c:Nat)(a:ug)(b:Wy dh)(e:cl)(g:Nat):Spec:=
 ⟨ul 949 [.ref d,.bytes e g],60,none,⟨pl [(d,cm a c)],[],λω ω=>[cm a c],nn,nn,nn,[⟨a,b⟩],nn⟩,λf ω=>uj (.bytes (cz b e) (f 0))⟩
noncomputable def jf:Code->Nat
 | .compStart _ _ (.ref a) _ _=>a
 | .compLoop _ _ (.ref a) _ _=>a
 |_=>0
noncomputable def hC:Code->Nat
 | .compStart _ _ _ (.ref a) _=>a
 | .compLoop _ _ _ (.ref a) _=>a
 |_=>0
noncomputable def hD:Code->Nat
 | .compStart _ _ _ _ a=>a.locals
 | .compLoop _ _ _ _ a=>a.locals
 |_=>0
noncomputable def l9:Code->Nat
 | .compStart _ _ _ _ a=>a.frame.getD 0
 | .compLoop _ _ _ _ a=>a.frame.getD 0
 |_=>0
theorem yZ(h:∀l∈M,kg l)(f:M≠[])(i:M.length<=1000000)(n:(cz M k).size<=16777216)(j:(M.map eH).foldl (· + ·.size) 0<=16777216):aI u (λω=>eN c a H M k d):=by
 have m:(cz M k).size=(ng M).size+1+k.size:=by simp[cz]
 refine oT 0x10311f0012201210100200f10120124012 [[2,4,1,0],[1],[],[]] [0] (aE [18]) ⟨λb g e=>xk h f i,yY (by simpa using f) (by refine(?_:(ng M).size<=_);lia) (by simpa using j),eG (by refine(?_:_+1<=_);lia),eG (by rw[Array.size_append];refine(?_:_+1+_<=_);lia),cg⟩ (Y:=λu=>[λb g e=>nc (Pm u) true (jf b) c (hC b) (hD b) (l9 b) a (eJ g 2) H M,FX #[] (M.map eH) λe=>cn 5 (cH e 0),je (ng M) #[10],je (ng M++ #[10]) k]) (J:=[[.UO 0],[],[],[]])
noncomputable def xl(a:Fin 16)(c:Nat):Spec:=⟨ul 146 [.int (rD a) c],20,none,UM [] (λω=>[]) (λω=>[]),λb ω=>uj (.int (a.val:Nat) (b 0))⟩
theorem nh(c:Fin 16):aI u (λω=>xl c a):=by
 by_cases b:c.val<10
 ·refine oT 0x100109f010103f1011 [] [] (aE [5]) trivial (Y:=λω=>[]) (H:= ?_)
  revert b;revert c;refine vl ?_ ?_ ?_ ?_ ?_ ?_ ?_ ?_ ?_ ?_ ?_ ?_ ?_ ?_ ?_ ?_<;>first|exact λb=>absurd b (by decide)|exact λω=>by kernel_rfl
 ·refine oT 0x100109f0e06f0111011 [] [] (aE [9]) trivial (Y:=λω=>[]) (H:= ?_)
  revert b;revert c;refine vl ?_ ?_ ?_ ?_ ?_ ?_ ?_ ?_ ?_ ?_ ?_ ?_ ?_ ?_ ?_ ?_<;>first|exact λb=>absurd (by decide) b|exact λω=>by kernel_rfl
noncomputable def Nf:PySem.Expr:=tH [17,1] [1]
noncomputable def envX(g:PySem.Expr)(f:Scope)(b:Wy (Str×Addr))(e:Str)(c d a:Nat):Env:=⟨f,d,3,b,e,none,.ref c,some a,0⟩
noncomputable def Hk(c:Scope):Scope:={c with names:=c.names.map λ(b,a)=>if a== .free then(b,.cell)else(b,a)}
noncomputable def y0(c b a:Nat):Env:=envX Nf (Hk (Qp Nf)) [(lq "text",c)] (lq "unhexlify.<locals>.") 150 b a
noncomputable def CN(c b e d a:Nat):Code:= .compLoop Nf 0 (.ref c) (.ref b) (y0 e d a)
noncomputable def dP(a:Wz):gi:=⟨.type "cell",none,.cell (some a),#[]⟩
noncomputable def kR(a:WC)(b:WA Wz)(c:Nat):gi:=match b with
 |none=>fk [] 0
 |some d=>fk [dx a "k" c d] 1
noncomputable def yd(a b:Fin 16):Int:=((a.val*16+b.val:Nat):Int)
noncomputable def kS(a:ug)(c:Nat)(d:Int)(b:AL):ug:=a++(⟨oh (List.replicate c d) b⟩:ug)
noncomputable def tJ(a:WC)(e:WA Wz)(f:Nat)(d:Nat)(b:AL)(c:Int):gi:=match d with
 |0=>kR a e f
 |_+1=>kR a (some (.int c (b 0))) (b 1)
noncomputable def ma(a:WC)(f c l g e:Nat)(m:Int)(h:Nat)(d:ug)(b:cl)(n o:Fin 16)(k:Nat)(i:WA Wz)(j:Nat):Wy (Nat×gi):=[(f,fS m (h:Nat) 2),(c,cm d e),(l,dP (.bytes b k)),(g,kR a i j)]
noncomputable def pQ(d:WC)(c:Int)(a:Nat)(g:ug)(e:cl)(f h:Fin 16)(k:Nat)(i:WA Wz)(j:Nat)(b:AL):uk:=[fS (c+2*a) 0 2,cm (kS g a (yd f h) (cn 4 b)) (b 2),dP (.bytes e k),tJ d i j a b (c+2*a-2)]
noncomputable def CO(b:WC)(h e n i a q:Nat)(o:Int)(j:Nat)(f:ug)(c:cl)(d g:Fin 16)(m:Nat)(k:WA Wz)(l:Nat):Spec:=
 ⟨CN h e n i a,60,some a,⟨pl (ma b h e n i q o j f c d g m k l),[],λp ω=>pQ b o j f c d g m k l p,nn,nn,nn,[],nn⟩,λω ω=>.ok .next⟩
noncomputable def oV(c:cl)(d:Int)(e:Int):U:=λa ω ω=>fh "bytes.__getitem__" [.bytes c (tk a 0),.int d (tk a 1)] [] λb=>.int e (b 0)
noncomputable def aA(d:gi)(c:Nat):Wz:=match d.data with
 | .dict b _=>(match b.toList[c]? with|some a=>a.val|none=>.none)
 |_=>.none
noncomputable def Rf(f:WC)(j h n k e:Nat)(d:Int)(l:Nat)(i:ug)(g:cl)(b c:Fin 16)(m:Nat):U:=λo a p=>
 CO f j h n k e (eJ a 1) (d+2) l (i.push (.int (yd b c) (df (l8 a 4 1)))) g b c m (some (.int d (CL (a[3]?.getD default) 0))) (dN (a[3]?.getD default) 0)
noncomputable def Rg(f:WC)(j h n k e o:Nat)(d:Int)(l:Nat)(i:ug)(g:cl)(b c:Fin 16)(m:Nat)(q:WA Wz)(r:Nat)(p:AL->Nat):Spec:=
 ⟨CN j h n k e,60,some e,⟨pl (ma f j h n k o d (l+1) i g b c m q r),[],λa ω=>pQ f (d+2) l (i.push (.int (yd b c) (a 0))) g b c m (some (.int d (a 1))) (p a) (cn 3 a),nn,nn,nn,[],nn⟩,λω ω=>.ok .next⟩
noncomputable def Rh(l:WC)(i m p n k:Nat)(b:Int)(f:Nat)(g:ug)(d:cl)(a e:Fin 16)(o:Nat):Wy U:=[λc j h=>yP i b (f+1:Nat) 2 (b+2) (f:Nat),oV d b (rD a),λc j h=>xl a (tk c 0),mulR (a.val:Nat) 16 ((a.val*16:Nat):Int),oV d (b+1) (rD e),λc j h=>xl e (tk c 0),CJ g,Rf l i m p n k b f g d a e o]
noncomputable def Ri(b:WC)(g d l h a f:Nat)(m:Int)(e:ug)(c:cl)(n o:Fin 16)(k:Nat)(i:WA Wz)(j:Nat):Spec:=
 ⟨CN g d l h a,60,some a,⟨pl (ma b g d l h f m 0 e c n o k i j),[],λp ω=>[fS m 0 2,cm e f,dP (.bytes c k),kR b i j],nn,nn,nn,[],nn⟩,λω ω=>.ok .next⟩
noncomputable def gV(b:cl)(e f:Fin 16)(a:Int)(d:Nat):Prop:=0<=a/\a+2*d<1000000/\∀c<d,b[a.toNat+2*c]?=some (dM e)/\b[a.toNat+2*c+1]?=some (dM f)
noncomputable def q6:Nat:=0x13101124403430df2034207f0101101222
theorem xm{it acc tx loc L ep:Nat}{a:Fin 16}{tt:Nat}{b:WA Wz}{t1:Nat}(v:b=none\/∃h j,b=some (.int h j))(s:gV k T a q (c+1))(t:H.size<=1000000)
 (w:∀i y m h,(i=none\/∃z j,i=some (.int z j))->OK u (CO (Pm u) it acc tx loc L m (q+2) c (H.push h) k T a tt i y)):∃x,aI u (λu=>Rg (Pm u) it acc tx loc L ep q c H k T a tt b t1 x):=by
 obtain⟨n,A,o⟩:=s;obtain⟨p,r⟩:=o 0 (by lia);have l:aw u (λu=>Rh (Pm u) it acc tx loc L q c H k T a tt):=⟨λd f e=>tE (by lia) rfl (by lia),λd f e=>iu n (by lia) (by simpa using p),λd f e=>nh T,pL (.of_right (by decide+kernel)) (by simp),λd f e=>iu (by lia) (by lia) (by
  have:(q+1).toNat=q.toNat+1:=by lia
  rw[this];simpa using r),λd f e=>nh a,λd f e=>lC t,λd f e=>w _ _ _ _ (.inr ⟨_,_,rfl⟩),cg⟩
 rcases v with rfl|⟨h,C,rfl⟩
 ·exact⟨λg=>g 2,oU q6 [[0],[],[],[],[],[],[1],[0,1,2,3]] [3,2,1,0] (dT [105,0,1] λg=>dI (odd (cn 1 (odd (odd (cn 2 (odd (cn 1 (odd (odd (cn 1 (odd g)))))))))))) l⟩
 ·exact⟨λω=>t1,oU q6 [[0],[],[],[],[],[],[1],[0,1,2,3]] [3,2,1,0] (dT [105,0,0] λg=>dI (odd (cn 1 (odd (odd (cn 2 (odd (cn 1 (odd (odd (cn 1 (odd g)))))))))))) l⟩
noncomputable def q8:Nat:=0x1310100f1001
theorem y1{u:WB}{e d h f c:Nat}{k:cl}{T a:Fin 16}{g:Nat}:∀(m:Nat) (l:Nat) (b:Int) (j:ug) (n:WA Wz) (o:Nat),(n=none\/∃t D,n=some (.int t D))->gV k T a b m->j.size+m<=1000000->
  OK u (CO (Pm u) e d h f c l b m j k T a g n o)
 |0,l,b,j,n,o,v,r,z=>by
  have q:aI u (λu=>Ri (Pm u) e d h f c l b j k T a g n o):=by
   refine oU q8 [] [3,2,1,0] (aE []) trivial (Y:=λω=>[])
  refine q.alt rfl rfl rfl rfl rfl rfl λi p=>⟨λω=>l,p,rfl, ?_,rfl,rfl,rfl,rfl⟩
  refine(?_:[_,_,_,_]=[_,_,_,_]);refine cY ?_ (cY ?_ (cY rfl (cY rfl rfl)))
  ·rw[show b+2*((0:Nat):Int)=b by lia]
  ·refine(?_:cm _ _=cm _ _);unfold kS;simp[oh]
 |m+1,l,b,j,n,o,v,r,z=>by
  obtain⟨A,q⟩:=xm (u:=u) (it:=e) (acc:=d) (tx:=h) (loc:=f) (L:=c) (ep:=l) (tt:=g) (t1:=o) v r (by lia) λC G w t x=>y1 m w (b+2) (j.push t) C G x (by
   obtain⟨H,I,y⟩:=r;refine⟨by lia,by lia,λs J=> ?_⟩
   have:=y (s+1) (by lia);rw[show(b+2).toNat+2*s=b.toNat+2*(s+1) by lia];exact this) (by rw[Array.size_push];lia)
  refine q.alt rfl rfl rfl rfl rfl rfl λi p=> ?_
  cases m with
  |zero=>
   refine⟨cons (i 1) (cons (A i) (cons (i 5) (cons 0 (cons (i 0) (cn 7 i))))),p,rfl, ?_,rfl,rfl,rfl,rfl⟩;refine(?_:[_,_,_,_]=[_,_,_,_]);refine cY ?_ (cY ?_ (cY rfl (cY ?_ rfl)))
   ·rw[show b+2+2*((0:Nat):Int)=b+2*((0+1:Nat):Int) by lia]
   ·refine(?_:cm _ _=cm _ _);unfold kS;rw[gu];rfl
   ·rw[show b+2*((0+1:Nat):Int)-2=b by lia];rfl
  |succ m=>
   refine⟨cons (i 3) (cons (i 4) (cons (i 5) (cons 0 (cons (i 0) (cn 7 i))))),p,rfl, ?_,rfl,rfl,rfl,rfl⟩;refine(?_:[_,_,_,_]=[_,_,_,_]);refine cY ?_ (cY ?_ (cY rfl (cY ?_ rfl)))
   ·rw[show b+2+2*((m+1:Nat):Int)=b+2*((m+1+1:Nat):Int) by lia]
   ·refine(?_:cm _ _=cm _ _);unfold kS;rw[gu];rfl
   ·rw[show b+2+2*((m+1:Nat):Int)-2=b+2*((m+1+1:Nat):Int)-2 by lia];rfl
section
noncomputable def ki(b:Int)(a:AL):ug:=⟨oh (List.replicate 20 b) a⟩
noncomputable def B7(a:Int):cl:=⟨List.replicate 20 a.toNat.toUInt8⟩
theorem ck:aI u (λω=>FT e d f 20 c (ki q y) (B7 q) (B7 q)):=
 oU 0x111011215 [[0,1]] [2,1,0] (aE [1]) ⟨λa g b=>fP (by simp[ki,oh,List.replicate]),cg⟩ (Y:=λω=>[λa g b=>jM d e 20 (ki q y) c])
theorem uu:∀(m:Nat) (c:Int) (d:Nat->Nat) (e:Nat) (b:Wz),(oh (List.replicate m c) d)[e]?=some b->∃f,b= .int c f
 |0,c,d,e,b,a=>by simp[oh]at a
 |m+1,c,d,0,b,a=>by
  simp[List.replicate_succ,oh]at a;exact⟨_,a.symm⟩
 |m+1,c,d,e+1,b,a=>by
  simp only[List.replicate_succ,oh,List.getElem?_cons_succ]at a;exact uu m c (cy d) e b a
theorem vw(c:Wz->UInt8)(e:UInt8):∀(m:Nat) (a:Int) (b:Nat->Nat),(∀f,c (.int a f)=e)->(oh (List.replicate m a) b).map c=List.replicate m e
 |0,a,b,d=>rfl
 |m+1,a,b,d=>by
  rw[List.replicate_succ,List.replicate_succ,oh,List.map_cons,d,vw c e m a (cy b) d]
theorem ni:∀(a:Wy Int) (b:Nat->Nat),(oh a b).length=a.length
 |[],_=>rfl
 |_::a,b=>congrArg (· +1) (ni a (cy b))
theorem oW(b:Int)(a:AL):(ki b a).size=20:=by refine(?_:(oh _ a).length=20);rw[ni];simp
theorem Hm(j:a<256):OK u (FT e d f 0 c (ki (a:Int) y) #[] (B7 (a:Int))):=by
 have i:ct PW (W2 u) (KB (W2 u)) (FT e d f (ki (a:Int) y).size c (ki (a:Int) y) (B7 (a:Int)) (B7 (a:Int))):=by
  rw[oW];exact ck
 refine yO i 20 0 #[] (by rw[oW]) (λk l m g=> ?_) ?_ (by decide)
 ·have h:(oh (List.replicate 20 (a:Int)) y)[k]?=some l:=by simpa[ki]using g
  obtain⟨b,rfl⟩:=uu _ _ _ _ _ h;exact⟨a,b,rfl,j⟩
 ·rw[List.drop_zero];refine(?_: #[]++((oh (List.replicate 20 (a:Int)) y).map _).toArray=B7 _);rw[vw _ (Int.toNat (a:Int)).toUInt8 20 (a:Int) y (λb=>rfl)]
  simp[B7]
noncomputable def sD(d c:Nat)(a:Int)(b:AL):Spec:=
 ⟨um "bytes.__new__" [.type "bytes",.ref d],60,none,UM [(d,cm (ki a b) c)] (λω=>[cm (ki a b) c]) (λω=>[]),λe ω=>uj (.bytes (B7 a) (e 0))⟩
theorem CP(g:a<256):OK u (sD e c (a:Int) y):=by
 have:∀b:Int,b=(a:Int)->aI u (λω=>sD e c b y):=λb h=>oT Q0 [[1,2,0]] [0] (aE [2]) ⟨λd i f=>by subst h;exact Hm g,cg⟩ (Y:=λω=>[λd i f=>FT e (ad d 1) (ad d 2) 0 c (ki b y) #[] (B7 b)])
 exact this _ rfl
noncomputable def tK(g:WC)(k:Bool)(d c f e b m:Nat)(h:cl)(i j:Fin 16)(l:Nat):Spec:=
 ⟨if k then .compStart Nf 0 (.ref d) (.ref c) (y0 f e b)else CN d c f e b,if k then 64 else 60,some b,⟨pl (ma g d c f e m 0 20 #[] h i j l none 0),[],λa ω=>[fS 40 0 2,cm (ki (yd i j) (cn 4 a)) (a 2),dP (.bytes h l),kR g (some (.int 38 (a 0))) (a 1)],nn,nn,nn,[],nn⟩,λω ω=>.ok .next⟩
theorem CR(b:WC)(e:cl)(c d:Fin 16)(f:Nat)(a:AL):pQ b 0 20 #[] e c d f none 0 a=[fS 40 0 2,cm (ki (yd c d) (cn 4 a)) (a 2),dP (.bytes e f),kR b (some (.int 38 (a 0))) (a 1)]:=by
 have g:kS #[] 20 (yd c d) (cn 4 a)=ki (yd c d) (cn 4 a):=by
  unfold kS ki;rw[Array.empty_append]
 have h:(0:Int)+2*((20:Nat):Int)=40:=by decide
 unfold pQ;rw[g,h];have i:tJ b none 0 20 a (40-2)=kR b (some (.int 38 (a 0))) (a 1):=by
  unfold tJ;rw[show(40:Int)-2=38 by decide]
 rw[i]
variable {a:Fin 16}
theorem y4(l:gV k T a 0 20):OK u (tK (Pm u) false d f h g e c k T a i):=by
 have j:OK u (CO (Pm u) d f h g e c 0 20 #[] k T a i none 0):=y1 20 c 0 #[] none 0 (.inl rfl) l (by simp);have e1:(tK (Pm u) false d f h g e c k T a i).code=CN d f h g e:=rfl;have e2:(tK (Pm u) false d f h g e c k T a i).dep=60:=rfl;refine ct.alt j e1 e2 ?_ ?_ ?_ ?_ ?_
 ·exact rfl
 ·exact rfl
 ·exact rfl
 ·exact rfl
 ·exact λb m=>⟨b,m,rfl,CR _ _ _ _ _ _,rfl,rfl,rfl,rfl⟩
theorem CS(n:gV k T a 0 20):aI u (λu=>tK (Pm u) true d f h g e c k T a i):=by
 obtain⟨o,b1,b2⟩:=u;cases b2 with
 |true=>exact oT 0x112 [[0,1,2,3]] [3,2,1,0] (dT [] λb=>dI b) ⟨λj m l=>y4 n,cg⟩ (Y:=λu=>[λj m l=>tK (Pm u) false d f h g e c k T a i])
 |false=>exact oT 0x1111011112 [[0,1,2,3]] [3,2,1,0] (dT [] λb=>dI b) ⟨λj m l=>y4 n,cg⟩ (Y:=λu=>[λj m l=>tK (Pm u) false d f h g e c k T a i])
noncomputable def fl(b:cl)(d:Int):U:=λc ω ω=>fh "len" [.bytes b (tk c 0)] [] λa=>.int d (a 0)
noncomputable def y5:Code->Nat
 | .compStart _ _ _ _ b=>(match b.cells with|(_,a)::_=>a|_=>0)
 |_=>0
noncomputable def Ng(a:cl)(b d:Fin 16)(e:Nat):Spec:=⟨ul 151 [.bytes a e],90,none,UM [] (λω=>[]) (λω=>[]),λc ω=>uj (.bytes (B7 (yd b d)) (c 0))⟩
theorem Hn(g:gV k T a 0 20)(f:k.size=40):aI u (λω=>Ng k T a c):=
 oT 0x1207f11a0ff00000324f202f506f1207f001111011012011 [[],[],[2,1,4,0],[1]] [] (aE [35]) ⟨λb d e=>aD (by rw[f];rfl) (by lia),λb d e=>aD (by rw[f];rfl) (by lia),λb d e=>CS g,λb d e=>CP (by lia),cg⟩ (Y:=λu=>[fl k 40,fl k 40,λb d e=>tK (Pm u) true (jf b) (hC b) (y5 b) (hD b) (l9 b) (eJ d 1) k T a c,λb d e=>sD (ad b 1) (eJ d 0) (yd T a) (cn 4 (cH e 0))])
noncomputable def B8(a:cl)(c:Nat)(b:Bool):Spec:=⟨ul 186 [.bytes a c],120,none,UM [] (λω=>[]) (λω=>[]),λd ω=>uj (.bool b)⟩
noncomputable def pR(c:Int)(d:Bool):U:=λa b e=>fh "tuple.__contains__" [.ref (ad a 0),.int c (tk a 1)] [(ad a 0,eE ([.int 40 (lk b 0 0),.int 64 (lk b 0 1)]:ui).toArray)] λω=>.bool d
theorem oX:∀a d b,OK u (pR 40 true a d b):=λa d b=>by
 refine rt (e:=λf=>match f with| .int 40 _=>true|_=>false) (λg c=> ?_) rfl
 simp only[List.mem_cons,List.not_mem_nil,or_false]at c;rcases c with rfl|rfl
 ·exact Eqv.int rfl
 ·exact Eqv.int rfl
theorem Ho(g:gV k T a 0 20)(e:k.size=40):aI u (λω=>B8 k c true):=
 oU 0x1000110bf00101201101122002010 [[],[0],[]] [] (aE []) ⟨λb f d=>aD (by rw[e];rfl) (by lia),oX,λb f d=>Hn g e,cg⟩ (Y:=λω=>[fl k 40,pR 40 true,λb f d=>Ng k T a c])
theorem Hp(a:k.size=39):aI u (λω=>B8 k c false):=
 oT 0x1000310f01012207f102f011 [[]] [] (aE []) ⟨λb e d=>aD (by rw[a];rfl) (by lia),cg⟩ (Y:=λω=>[fl k 39])
noncomputable def rI(a:cl)(c:Nat)(b:Str)(d:Nat):Spec:=⟨ul 193 [.bytes a c,.str b d],140,none,UM [] (λω=>[]) (λω=>[]),λe ω=>uj .none⟩
theorem nj{b:Str}(g:gV k T a 0 20)(h:k.size=40):aI u (λω=>rI k c b d):=
 oU 0x100011111000101 [[]] [] (aE []) ⟨λe i f=>Ho g h,cg⟩ (Y:=λω=>[λe i f=>B8 k c true])
end
noncomputable def ux:Wy (cl×Int×Bool):=FV++[(#[43,48,49,48,48],3600,false)]
noncomputable def iR(a:Fin 7):cl×Int×Bool:=ux.getD a.val (#[],0,false)
noncomputable def Rj(a:Fin 7)(b:Nat):gi:=eE #[.int (iR a).2.1 b,.bool (iR a).2.2]
noncomputable def Nh(b:Fin 7)(c:Nat):Spec:=⟨ul 619 [.bytes (iR b).1 c],40,none,UM [] (λω=>[]) (λa=>[(a 0,Rj b (a 1))]),λa ω=>uj (.ref (a 0))⟩
theorem Yv{Q:Fin 6->Prop}(c:Q 0)(d:Q 1)(e:Q 2)(f:Q 3)(g:Q 4)(h:Q 5)(b:Fin 6):Q b:=(@Fin.cases 5 (λa=>Q a) c (@Fin.cases 4 (λa=>Q a.succ) d (@Fin.cases 3 (λa=>Q a.succ.succ) e (@Fin.cases 2 (λa=>Q a.succ.succ.succ) f (@Fin.cases 1 (λa=>Q a.succ.succ.succ.succ) g (@Fin.cases 0 (λa=>Q a.succ.succ.succ.succ.succ) h (λa=>a.elim0))))))) b
theorem YC{Q:Fin 7->Prop}(c:Q 0)(d:Q 1)(e:Q 2)(f:Q 3)(g:Q 4)(h:Q 5)(i:Q 6)(b:Fin 7):Q b:=(@Fin.cases 6 (λa=>Q a) c (@Fin.cases 5 (λa=>Q a.succ) d (@Fin.cases 4 (λa=>Q a.succ.succ) e (@Fin.cases 3 (λa=>Q a.succ.succ.succ) f (@Fin.cases 2 (λa=>Q a.succ.succ.succ.succ) g (@Fin.cases 1 (λa=>Q a.succ.succ.succ.succ.succ) h (@Fin.cases 0 (λa=>Q a.succ.succ.succ.succ.succ.succ) i (λa=>a.elim0)))))))) b
noncomputable def q7:Nat:=0x100309f21df150df2200200200f163bf52bf816f00319f505f0113333109f102f01130
noncomputable def Q2:Nat:=0x100309f21df150df2200200200f302ff09f816f00319f505f0113333109f102f01130
theorem Hr(b:Fin 7):OK u (Nh b a):=by
 refine YC (Q:=λb=>aI u (λω=>Nh b a)) ?_ ?_ ?_ ?_ ?_ ?_ ?_ b
 ·exact oT q7 [] [3] (aE [35,34]) trivial (Y:=λω=>[])
 ·exact oT Q2 [] [3] (aE [37,36]) trivial (Y:=λω=>[])
 ·exact oT q7 [] [3] (aE [35,34]) trivial (Y:=λω=>[])
 ·exact oT 0x100309f21df150df2200200200f302f626fb1cf40af00319f505f0113333109f102f01130 [] [3] (aE [38,37]) trivial (Y:=λω=>[])
 ·exact oT q7 [] [3] (aE [35,34]) trivial (Y:=λω=>[])
 ·exact oT Q2 [] [3] (aE [37,36]) trivial (Y:=λω=>[])
 ·exact oT q7 [] [3] (aE [35,34]) trivial (Y:=λω=>[])
noncomputable def Ni:Wy (cl×Int):=[(#[48],0),(#[49,55,48,48,48,48,48,48,48,48],1700000000),(#[57,50,50,51,51,55,50,48,51,54,56,53,52,55,55,53,56,48,55],9223372036854775807),(#[53],5),(#[49,50],12),(#[57,50,50,51,51,55,50,48,51,54,56,53,52,55,55,53,56,48,56],9223372036854775808)]
noncomputable def pS(a:Fin 6):cl×Int:=Ni.getD a.val (#[],0)
noncomputable def Nj(a:Fin 6)(c:Nat):Spec:=⟨.call (.type "int") ⟨[.bytes (pS a).1 c],[]⟩,30,none,UM [] (λω=>[]) (λω=>[]),λb ω=>uj (.int (pS a).2 (b 0))⟩
theorem Hs(b:Fin 6):OK u (Nj b a):=by
 refine Yv (Q:=λb=>aI u (λω=>Nj b a)) ?_ ?_ ?_ ?_ ?_ ?_ b
 ·exact oU 0x1102f011 [] [] (aE [0]) trivial (Y:=λω=>[])
 ·exact oU 0x1102f011 [] [] (aE [0]) trivial (Y:=λω=>[])
 ·exact oU 0x1102f011 [] [] (aE [0]) trivial (Y:=λω=>[])
 ·exact oU 0x1102f011 [] [] (aE [0]) trivial (Y:=λω=>[])
 ·exact oU 0x1102f011 [] [] (aE [0]) trivial (Y:=λω=>[])
 ·exact oU 0x1102f011 [] [] (aE [0]) trivial (Y:=λω=>[])
variable {m:cl}
noncomputable def ky(c:uk)(a b:Nat):Wz:=match(c[a]?.getD default).data with
 | .fields d=>(d.toList[b]?).getD .none
 |_=>.none
noncomputable def SF(b:WA Int)(c:Nat):Wz:=match b with
 |none=>.none
 |some a=>.int a c
noncomputable def dE(d:WA Int)(b c:Int):Int:=match d with
 |none=>c
 |some a=>max 0 (min (if a<0 then a+b else a) b)
theorem bA{p:Int}(b:0<=p)(c:p<=a):(dE (some p) a q).toNat=p.toNat:=by refine(?_:(max 0 (min (if p<0 then p+a else p) (a:Int))).toNat=p.toNat);rw[if_neg (Int.not_lt.mpr b),Int.min_eq_left c,Int.max_eq_right b]
theorem TW(b:c<=a):(dE (some (c:Int)) a q).toNat=c:=bA (Int.natCast_nonneg c) (Int.ofNat_le.mpr b)
theorem xY:(dE (some (-1)) ((a+1:Nat):Int) q).toNat=a:=by refine(?_:(max 0 (min (-1+((a+1:Nat):Int)) ((a+1:Nat):Int))).toNat=a);rw[show(-1:Int)+((a+1:Nat):Int)=(a:Nat)from by lia,Int.min_eq_left (Int.ofNat_le.mpr (Nat.le_succ a)),Int.max_eq_right (Int.natCast_nonneg a),Int.toNat_natCast]
theorem bP{b:Nat}(c:k.extract a b=l):l.size<=k.size:=by subst c;rw[Array.size_extract];exact Nat.le_trans (Nat.sub_le ..) (Nat.min_le_right ..)
noncomputable def du(d g:cl)(f e:WA Int):U:=λa b h=>fh "bytes.__getitem__" [.bytes d (tk a 0),.ref (ad a 1)] [(ad a 1,gB (SF f (df (ky b 0 0))) (SF e (df (ky b 0 1))))] λc=>.bytes g (c 0)
theorem de{b a:WA Int}(f:k.extract (dE b k.size 0).toNat (dE a k.size k.size).toNat=l)(g:k.size<=16777216):∀c e d,OK u (du k l b a c e d):=λc e d=>by
 refine yM ?_ ?_ ?_ g
 ·cases b;exact .none;exact .int _ _
 ·cases a;exact .none;exact .int _ _
 ·cases b<;>cases a<;>exact f
noncomputable def CT(c d:cl)(e:Nat):U:=λa ω ω=>fh "bytes.rindex" [.bytes c (tk a 0),.bytes d (tk a 1)] [] λb=>.int (e:Nat) (b 0)
noncomputable def CU(b c:cl)(e:Wy cl):U:=λa ω ω=>rk "bytes.rsplit" [.bytes b (tk a 0),.bytes c (tk a 1),.int 1 (tk a 2)] [] λd=>cm ⟨d3 e d⟩ 0
noncomputable def Rk(b:cl)(a:Fin 6)(c d e:Nat):gi:=eE #[.bytes b d,.int (pS a).2 e,.ref c]
noncomputable def Rl(a:Fin 7)(b:Nat):gi:=eE #[.int (iR a).2.1 b,.bool (iR a).2.2]
noncomputable def Rm(b:cl)(e:Nat)(d:cl)(c:Fin 6)(f:Fin 7):Spec:=⟨ul 634 [.bytes b e],60,none,UM [] (λω=>[]) (λa=>[(a 0,Rk d c (a 1) (a 2) (a 3)),(a 1,Rl f (a 4))]),λa ω=>uj (.ref (a 0))⟩
structure tL(V person rest:cl)(n:Nat)(j:Fin 6)(z:Fin 7):Prop where
 size:V.size<=100000
 ri:(if(V.size:Int)-0<2 then none else Builtin.Bytes.rfind? V #[62,32] 0 V.size)=some n
 pe:V.extract 0 (n+1)=person
 re:V.extract (n+2) V.size=rest
 sp:pK rest #[32] 1=[(pS j).1,(iR z).1]
 big:n+2<=V.size
theorem y6:∀(a:Fin 6) (c:Fin 7),∀b∈[(pS a).1,(iR c).1],b.size<=16777216:=by decide+kernel
theorem Ht{b:Fin 6}{c:Fin 7}(j:tL k l m a b c):aI u (λω=>Rm k d l b c):=by
 obtain⟨r,n,o,h,q,i⟩:=j;have s:=bP h;refine oT 0x10022df20111ef010df20af22220130f23330510ff37fc37f77770071770701310f0f09f111011111211001205fbbbb00 [[],[0],[0],[],[],[]] [12,11] (aE [613,549,15,149,261]) ⟨λe g f=>xb n,de ?_ (by lia),de ?_ (by lia),λe g f=>rm rfl q (y6 b c) (by simp),λe g f=>Hs b,λe g f=>Hr c,cg⟩ (Y:=λω=>[CT k #[62,32] a,du k l (some 0) (some ((a:Int)+1)),du k m (some ((a:Int)+2)) none,CU m #[32] [(pS b).1,(iR c).1],λe g f=>Nj b (tk e 0),λe g f=>Nh c (tk e 0)])
 ·rw[bA (p:=0) (Int.le_refl 0) (Int.natCast_nonneg _),bA (p:=(a:Int)+1) (Int.natCast_nonneg (a+1)) (Int.ofNat_le.mpr (Nat.le_of_succ_le i))];exact o
 ·rw[bA (p:=(a:Int)+2) (Int.natCast_nonneg (a+2)) (Int.ofNat_le.mpr i)];exact h
section
noncomputable def ot(b:Wy WL)(a:Nat):gi:=⟨.type "frame",none,.dict b.toArray a,#[]⟩
noncomputable def FY(a:Nat):Env:=xi [39] (lq "_parse_message.<locals>.") 398 397 a []
noncomputable def eo(a:Nat):Code:= .func ((inner (mj PW.main.body [39]))) (FY a)
noncomputable def SG(d:uh)(b:Env):Code:=match mj PW.main.body d with
 | .While e a c _=>.whileLoop e a c b
 |_=>.call .none ⟨[],[]⟩
noncomputable def JT(a:Nat):Code:=SG [39,7] (FY a)
noncomputable def cp(b:Wy cl)(a:AL)(c:Nat):gi:=cm ⟨d3 b a⟩ c
noncomputable def hf(h:cl)(c:Wy cl)(g:cl)(d:Wy AL->AL):U:=λa f e=>fh "bytes.join" [.bytes h (tk a 0),.ref (ad a 1)] [(ad a 1,cm ⟨d3 c (d e)⟩ (eJ f 0))] λb=>.bytes g (b 0)
noncomputable def pT(c d:cl)(f:Int)(e:Nat):U:=λa ω ω=>fh "bytes.find" [.bytes c (tk a 0),.bytes d (tk a 1),.int f (tk a 2)] [] λb=>.int (e:Nat) (b 0)
noncomputable def CV(b c:Int)(d:Bool):U:=λa ω ω=>fh "int.__eq__" [.int b (tk a 0),.int c (tk a 1)] [] λω=>.bool d
noncomputable def vx(b c:cl)(d:Bool):U:=λa ω ω=>fh "bytes.startswith" [.bytes b (tk a 0),.bytes c (tk a 1)] [] λω=>.bool d
noncomputable def T6(b c:cl)(d:Bool):U:=λa ω ω=>fh "bytes.endswith" [.bytes b (tk a 0),.bytes c (tk a 1)] [] λω=>.bool d
noncomputable def tM(b c:cl)(d:Bool):U:=λa ω ω=>fh "bytes.__eq__" [.bytes b (tk a 0),.bytes c (tk a 1)] [] λω=>.bool d
noncomputable def y8(b c:cl)(e:Wy cl):U:=λa ω ω=>rk "bytes.split" [.bytes b (tk a 0),.bytes c (tk a 1),.int 1 (tk a 2)] [] λd=>cm ⟨d3 e d⟩ 0
noncomputable def aT:gi:=⟨.none,none,.fields #[],#[]⟩
noncomputable def Hu(b:WG)(a:Nat):oq:=
  (⟨eo a, none, [], a, 60, ⟨[⟨a, ot [dx b.params "chunks" 0 (.ref 0)] 1, true⟩, ⟨0, cp [#[]] (λω => 0) 0, false⟩, ⟨393, aT, false⟩], [], nn, nn, nn, nn, [], nn⟩, λω ω => .ret (.ok .next)⟩,
   [hf #[] [#[]] #[] λω => λω => 0], [λc e d => bV (JT a) a])
noncomputable def mE(u:WB)(a:Nat):Wy WM:=pM (ke u (Hu (W2 u) a).1 ({n:=207,UT:=dc 0x11012100f10222204100f0aaa0000993,us:=[hf #[] [#[]] #[] λω=>λω=>0],ps:=[[1]],ss:=[λb d c=>bV (JT a) a],U2:=[[]],UY:=[[]],U1:=[[]]}:fF) ⟨0,0,0,0⟩ (λω=>0) (λω=> #[]))
structure PM where
 (L lc:Nat)
 T:cl
 tT:Nat
 place:Int
 tp:Nat
 kb:cl
 (tk lv sf:Nat)
 VZ:Int
 te:Nat
 line:cl
 tl:Nat
 rb:cl
 tr:Nat
noncomputable def nq(b:WC)(a:PM)(c:Nat->Nat):gi:=ot [dx b "chunks" (c 0) (.ref a.lc),dx b "text" (c 1) (.bytes a.T a.tT),dx b "place" (c 2) (.int a.place a.tp),dx b "k" (c 3) (.bytes a.kb a.tk),dx b "v" (c 4) (.ref a.lv),dx b "eof" (c 5) (.bool true),dx b "_strip_last_newline" (c 6) (.ref a.sf),dx b "end" (c 7) (.int a.VZ a.te),dx b "line" (c 8) (.bytes a.line a.tl),dx b "rest" (c 9) (.bytes a.rb a.tr)] 10
noncomputable def cZ:Str:=lq "_parse_message.<locals>._strip_last_newline"
noncomputable def e8(c:Nat)(doc e:Wz):gi:=⟨.type "function",none,.func (match mj PW.main.body [39,6]with
 | .FunctionDef d a b _ _ _ f .. =>{name:=d,qualname:=cZ,params:=a,body:= .stmts b,scope:=f,globals:=3,closure:=[],defaults:= .none,kwdefaults:= .none,doc:=doc,pyModule:=e,annotations:=none,code:= .ref c,closureTuple:= .none,builtins:=0}
 |_=>default),#[]⟩
noncomputable def dq(a:Wz)(c:Str)(d:Nat)(b:ui):gi:=⟨.type "code",none,.fields (a:: .str c d::b).toArray,#[]⟩
noncomputable def y9(f a:Nat)(c e b:Wz)(g:Nat)(d:ui)(h j:cl)(k:Nat):Spec:=
 ⟨.call (.ref f) ⟨[.bytes h k],[]⟩,40,none,UM [(f,e8 a c e),(a,dq b cZ g d)] (λω=>[e8 a c e,dq b cZ g d]) (λω=>[]),λi ω=>uj (.bytes j (i 0))⟩
variable {b:cl} {d:Wz}
theorem za(o:k.size≠0)(p:k.size<=1000000)(m:oR k #[10]=true)(i:k.extract 0 (k.size-1)=b):aI u (λω=>y9 a e v x d f L k b c):=by
 obtain⟨h,g⟩:∃h,k.size=h+1:=⟨k.size-1,by lia⟩;refine oU 0x1012110bf1101210110012 [[],[],[0]] [1,0] (aE [20]) ⟨λj n l=>aD (by rw[g]) (by lia),λj n l=>M1 m,de ?_ (by lia),cg⟩ (Y:=λω=>[fl k ((h+1:Nat):Int),T6 k #[10] true,du k b none (some (-1))])
 rw[g,xY];rw[g]at i;exact i
noncomputable def fdOf(b:gi):FuncData:=match b.data with
 | .func a=>a
 |_=>default
noncomputable def vy(d:WC)(a:PM)(h:AL)(j:Wy cl)(c:AL)(g b:Nat)(f k e:Wz)(l:Nat)(i:ui):Wy aF:=[⟨a.L,nq d a h,true⟩,⟨a.lv,cp j c g,false⟩,⟨a.sf,e8 b f k,false⟩,⟨b,dq e cZ l i,false⟩]
noncomputable def kj(d:PM)(a:Nat)(line:cl)(b c:Nat):PM:={d with place:=(a:Int)+1,tp:=b,VZ:=(a:Int)+1,te:=b,line:=line,tl:=c}
noncomputable def Hv(a:PM)(e:AL)(k:Wy cl)(b:Nat)(d c m:cl)(h:Nat)(i l f:Wz)(n:Nat)(j:ui):Wy U:=[fl a.T (a.T.size:Nat),JQ a.place (a.T.size:Nat) true,pT a.T #[10] a.place b,CV (b:Nat) (-1) false,du a.T d (some a.place) (some ((b:Int)+1)),vx d #[32] false,hf #[] k c (λω=>e),λg p o=>y9 a.sf h i l f n j c m (tk g 0)]
noncomputable def Nk(c:WG)(a:PM)(b:Wy WM):oq:=
 (⟨JT a.L,none,b,a.L,60,⟨vy c.params a (λω=>0) [] (λω=>0) 0 100003 .none .none .none 0 [],[],nn,nn,nn,nn,[],nn⟩,λω ω=>.ret (.ok .next)⟩,Hv a (λω=>0) [] 0 #[] #[] #[] 100003 .none .none .none 0 [],[])
noncomputable def SH(a:Nat):PM:=⟨a,100004,#[],0,0,0,#[],0,100001,100002,0,0,#[],0,#[],0⟩
noncomputable def Q3:Nat:=0x11001012012208f1101101210200f10308f106f2222012410
noncomputable def vz(u:WB)(a:Nat):WA (End×St):=
 let b:=SH a
 let c:=mE u a
 ke u (Nk (W2 u) b c).1 ({n:=263,UT:=dc Q3,us:=(Hv b (λω=>0) [] 0 #[] #[] #[] 100003 .none .none .none 0 []),ps:=[[],[],[],[],[0],[],[2],[3,4]]}:fF) ⟨0,0,0,0⟩ (λω=>0) (λω=> #[])
noncomputable def Hw(u:WB)(a:Nat)(b:Wz):End:=aH (vz u a) b
noncomputable def Nl(u:WB)(a:PM)(h:AL)(j:Wy cl)(c:AL)(g n:Nat)(m o:cl)(e:Nat)(f k d:Wz)(l:Nat)(i:ui):Seg:=
 ⟨JT a.L,none,mE u a.L,a.L,60,⟨vy (Pm u) a h j c g e f k d l i,[],λb ω=>[nq (Pm u) (kj a n m (b 2) (b 3)) h,cp j c g,e8 e f k,dq d cZ l i],nn,λb ω=>[⟨b 0,eE #[.bytes a.kb a.tk,.bytes o (b 1)],false⟩],nn,[],nn⟩,λb ω=>Hw u a.L (.ref (b 0))⟩
theorem iD{g:WJ}{h:WG}{f:Nat->WA gi}{d a:Int}{b:Bool}(i:(d==a)=b):ct g h f (fh "int.__eq__" [.int d c,.int a e] [] λω=>.bool b):=
 eU (by decide+kernel) F.entry_int_eq (gives_int_eq d a c e) λl k j=>by rw[i];exact j (λω=>0) k.toks
structure dA(T:cl)(p:Int)(line:cl)(n:Nat):Prop where
 p0:0<=p
 lt:p<(T.size:Nat)
 find:oQ T #[10] p.toNat=some n
 ext:T.extract p.toNat (n+1)=line
 le:n+1<=T.size
 big:T.size<=1000000
theorem dB(a:dA m q l c):m.extract (dE (some q) (m.size:Nat) 0).toNat (dE (some ((c:Int)+1)) (m.size:Nat) (m.size:Nat)).toNat=l:=by rw[bA a.p0 (Int.le_of_lt a.lt),bA (p:=(c:Int)+1) (Int.natCast_nonneg (c+1)) (Int.ofNat_le.mpr a.le)];exact a.ext
theorem sE{a:cl}:a.extract (dE (some 1) (a.size:Nat) 0).toNat (dE none (a.size:Nat) (a.size:Nat)).toNat=a.extract 1 a.size:=by
 refine(?_:a.extract _ a.size=_);rcases Nat.eq_zero_or_pos a.size with h|h
 ·rw[Array.eq_empty_of_size_eq_zero h];rfl
 ·rw[bA (p:=1) (by decide) (Int.ofNat_le.mpr h)];rfl
noncomputable def pU(a:cl):cl:=a.extract 0 (a.size-1)
structure kT(parts:Wy cl)(V r:cl):Prop where
 ne:parts≠[]
 join:eI #[] parts=V
 pos:V.size≠0
 big:V.size<=1000000
 fold:parts.foldl (· + ·.size) 0<=1000000
 ends:oR V #[10]=true
 strip:pU V=r
variable {a:PM}
theorem Hx(m:dA a.T a.place l c)(o:aB l #[32]=false)(h:kT A k b):
  aO u (λu=>Nl u a y A z g c l b e v x d f L):=by
 have p:aw u (λω=>Hv a z A c l k b e v x d f L):=⟨λi n j=>aD rfl (by have:=m.big;lia),λi n j=>i9 (decide_eq_true m.lt),λi n j=>fO m.p0 m.find,λi n j=>iD (by simp),de (dB m) (by have:=m.big;lia),λi n j=>hA o,λi n j=>bh h.ne h.join (by have:=h.big;lia) (by have:=h.fold;simp;lia),λi n j=>za h.pos h.big h.ends h.strip,cg⟩
 exact sT Q3 [[],[],[],[],[0],[],[2],[3,4]] [3,2,1,0,5] (aE [507,379,59,107]) p
noncomputable def CW(u:WB)(b:PM)(f:AL)(h:Wy cl)(k:AL)(m:Nat)(l:Wy cl)(o:Nat)(n p:cl)(d:Nat)(e i c:Wz)(j:Nat)(g:ui):Seg:=
 ⟨JT b.L,none,mE u b.L,b.L,60,⟨vy (Pm u) b f h k m d e i c j g,[],λa ω=>[nq (Pm u) (kj b o n (a 2) (a 3)) f,cp (h++l) (cn 5 a) (a 4),e8 d e i,dq c cZ j g],nn,λa ω=>[⟨a 0,eE #[.bytes b.kb b.tk,.bytes p (a 1)],false⟩],nn,[],nn⟩,λa ω=>Hw u b.L (.ref (a 0))⟩
noncomputable def Rn(u:WB)(b:PM)(g:AL)(i:Wy cl)(l:AL)(n s:Nat)(r c:cl)(m:Wy cl)(p:Nat)(o q:cl)(e:Nat)(f j d:Wz)(k:Nat)(h:ui):Seg:=
 ⟨JT b.L,none,mE u b.L,b.L,60,⟨vy (Pm u) b g i l n e f j d k h,[],λa ω=>[nq (Pm u) (kj b p o (a 2) (a 3)) g,cp ((i++[c])++m) (cn 5 a) (a 4),e8 e f j,dq d cZ k h],nn,λa ω=>[⟨a 0,eE #[.bytes b.kb b.tk,.bytes q (a 1)],false⟩],nn,[],nn⟩,λa ω=>Hw u b.L (.ref (a 0))⟩
inductive iE (T:cl):Int->Wy cl->Int->Prop where
 |nil (p:Int):iE T p [] p
 |cons {p:Int} {line c:cl} {n:Nat} {cs:Wy cl} {q:Int} (h:dA T p line n) (hs:aB line #[32]=true) (hc:line.extract 1 line.size=c) (t:iE T ((n:Int)+1) cs q):iE T p (c::cs) q
theorem tN{u:WB}{y:AL}{g:Nat}{l b k:cl}{e:Nat}{v x d:Wz}{f:Nat}{L:ui}{m:cl}{q:Int}(G:dA m q l g)(H:aB l #[32]=false):∀(j:Wy cl) (a:PM) (i:Wy cl) (F:AL) (p:Nat),a.T=m->iE m a.place j q->kT (i++j) k b->(i++j).length<=1000000->
  fj u (CW u a y i F p j g l b e v x d f L)
 |[],a,i,F,p,z,A,w,C=>by
  subst z;cases A;rw[List.append_nil]at w;have n:fj u (Nl u a y i F p g l b e v x d f L):=Hx G H w;refine gb.alt n rfl rfl rfl rfl rfl rfl rfl rfl λo D=>⟨cons (o 0) (cons (o 1) (cons (o 2) (cons (o 3) (cons p F)))),D,rfl, ?_,rfl,rfl,rfl,rfl⟩
  refine(?_:[_,_,_,_]=[_,_,_,_]);refine cY rfl (cY ?_ rfl);rw[List.append_nil];rfl
 |c::j,a,i,F,p,z,A,w,C=>by
  subst z;cases A with
  | @cons _ s _ t _ _ n Y T W=>
   have Z:=Nat.le_trans (bP n.ext) n.big;have P:=n.big;have I:aO u (λu=>Rn u a y i F p t s c j g l b e v x d f L):=by
    have X:i.length+(j.length+1)<=1000000:=by simpa using C
    have V:aw u (λω=>[fl a.T (a.T.size:Nat),JQ a.place (a.T.size:Nat) true,pT a.T #[10] a.place t,CV (t:Nat) (-1) false,du a.T s (some a.place) (some ((t:Int)+1)),vx s #[32] true,du s c (some 1) none,rC i F c]):=⟨λc h r=>aD rfl (by lia),λc h r=>i9 (decide_eq_true n.lt),λc h r=>fO n.p0 n.find,λc h r=>iD (by simp),de (dB n) (by lia),λc h r=>hA Y,de (sE.trans T) (by lia),iz (by lia),cg⟩
    have R:aG u (λu=>[λJ h r=>CW u (kj a t s (df (aA (h[0]?.getD default) 2)) (df (aA (h[0]?.getD default) 8))) y (i++[c]) (mm F i.length (df (l8 h 4 1))) (eJ h 1) j g l b e v x d f L]):=⟨λJ h r=>tN G H j (kj a t s (df (aA (h[0]?.getD default) 2)) (df (aA (h[0]?.getD default) 8))) (i++[c]) _ _ rfl W (by rw[List.append_assoc];exact w) (by rw[List.append_assoc];exact C),cg⟩
    exact sT 0x11001130f2208f1101101210200f1001200f2012233332001201421 [[],[],[],[],[0],[],[0],[3]] [3,2,1,0,6] (dT [] λo=>dI (odd (odd (cn 2 (odd (cn 3 (odd (cn 4 (odd (cn 3 (odd (cn 1 (odd (odd o)))))))))))))) V (O:=_) (Q:=R) (M:=[[2,3,4,5]]) (N:=[[]]) (V:=[[]])
   refine gb.alt I rfl rfl rfl rfl rfl rfl rfl rfl λo D=>⟨o,D,rfl, ?_,rfl,rfl,rfl,rfl⟩
   refine(?_:[_,_,_,_]=[_,_,_,_]);refine cY rfl (cY ?_ rfl);rw[List.append_assoc];rfl
noncomputable def iV:End->Resume->Sem PySem.Fin
 | .susp _ _ _ a _ _ _=>a
 |_=>λω=>.pure (.done .next)
noncomputable def iW:End->Code
 | .susp _ _ _ _ a _ _=>a
 |_=>.call .none ⟨[],[]⟩
noncomputable def gc:End->Wy WM
 | .susp _ _ _ _ _ _ a=>a
 |_=>[]
noncomputable def CX(u:WB)(a:Nat):End:=Hw u a .none
noncomputable def vA(c:PM)(kb rb:cl)(a b lv:Nat):PM:={c with kb:=kb,tk:=a,lv:=lv,rb:=rb,tr:=b}
noncomputable def zb(c:WC)(a:PM)(f:AL)(b:Nat)(e h d:Wz)(i:Nat)(g:ui):Wy aF:=[⟨a.L,nq c a f,true⟩,⟨a.sf,e8 b e h,false⟩,⟨b,dq d cZ i g,false⟩]
noncomputable def Hy(u:WB)(b:PM)(g:AL)(f n:cl)(o:Wy cl)(l:Nat)(k m:cl)(d:Nat)(e i c:Wz)(j:Nat)(h:ui):Seg:=
 ⟨iW (CX u b.L),some (iV (CX u b.L) (.send .none)),gc (CX u b.L),b.L,70,⟨zb (Pm u) b g d e i c j h,[],λa ω=>[nq (Pm u) (kj (vA b f n (a 0) (a 1) (a 2)) l k (a 5) (a 6)) g,e8 d e i,dq c cZ j h],nn,λa ω=>[⟨a 3,eE #[.bytes f (a 0),.bytes m (a 4)],false⟩],nn,[],nn⟩,λa ω=>Hw u b.L (.ref (a 3))⟩
structure eQ(line kb rb:cl):Prop where
 ne:(line.toList==(#[10]:cl).toList)=false
 sp:gg line #[32] 1=[kb,rb]
 k:kb.size<=1000000
 r:rb.size<=1000000
theorem eQ.all(a:eQ l n m):∀c∈[n,m],c.size<=16777216:=by
 intro c b;simp only[List.mem_cons,List.not_mem_nil,or_false]at b;rcases b with rfl|rfl
 ·have:=a.k;lia
 ·have:=a.r;lia
theorem Hz(i:eQ a.line n m)(p:iE a.T a.place A q)(r:dA a.T q l g)(w:aB l #[32]=false)(s:kT (m::A) k b)(C:A.length<1000000):
  aO u (λu=>Hy u a y n m A g l b e v x d f L):=by
 have z:aw u (λω=>[tM a.line #[10] false,y8 a.line #[32] [n,m]]):=⟨λj c h=>lB i.ne,λj c h=>m7 rfl i.sp i.all (by simp),cg⟩
 have t:aG u (λu=>[λo c h=>CW u (vA a n m (df (aA (c[0]?.getD default) 3)) (df (aA (c[0]?.getD default) 9)) (match aA (c[0]?.getD default) 4 with| .ref d=>d|_=>0)) y [m] (iB c 1) (eJ c 1) A g l b e v x d f L]):=⟨λo c h=>tN r w A (vA a n m _ _ _) [m] _ _ rfl p s (by simp;lia),cg⟩
 exact sT 0x1103f0510f0f09f111011111211001555550661 [[],[]] [2,1,0,8] (aE [10,14,28,36,44,52,60]) z (O:=_) (Q:=t) (M:=[[5,0,6,7]]) (N:=[[]]) (V:=[[]])
noncomputable def kU(b:WC)(a:PM)(c:Nat->Nat):gi:=ot [dx b "chunks" (c 0) (.ref a.lc),dx b "text" (c 1) (.bytes a.T a.tT),dx b "place" (c 2) (.int a.place a.tp),dx b "k" (c 3) (.bytes a.kb a.tk),dx b "v" (c 4) (.ref a.lv),dx b "eof" (c 5) (.bool false),dx b "_strip_last_newline" (c 6) (.ref a.sf),dx b "end" (c 7) (.int a.VZ a.te),dx b "line" (c 8) (.bytes a.line a.tl),dx b "rest" (c 9) (.bytes a.rb a.tr)] 10
noncomputable def Nm(u:WB)(a:PM):oq:=
 (⟨iW (CX u a.L),some (iV (CX u a.L) (.send .none)),gc (CX u a.L),a.L,70,⟨[⟨a.L,nq u.w.params a λω=>0,true⟩],[],nn,nn,nn,nn,[],nn⟩,λω ω=>.ret (.ok .next)⟩,[tM a.line #[10] true,du a.T #[] (some a.place) none],[])
noncomputable def SI:Nat:=0x11012100f100120
noncomputable def pV(u:WB)(b:Nat):WA (End×St):=
 let a:=SH b
 ke u (Nm u a).1 ({n:=121,UT:=dc SI,us:=[tM a.line #[10] true,du a.T #[] (some a.place) none],ps:=[[],[0]]}:fF) ⟨0,0,0,0⟩ (λω=>0) (λω=> #[])
noncomputable def Nn(u:WB)(a:Nat)(b:Wz):End:=aH (pV u a) b
noncomputable def CY(u:WB)(a:PM)(c:AL)(d:cl):Seg:=
 ⟨iW (CX u a.L),some (iV (CX u a.L) (.send .none)),gc (CX u a.L),a.L,70,⟨[⟨a.L,nq (Pm u) a c,true⟩],[],λb ω=>[kU (Pm u) a c],nn,λb ω=>[⟨b 0,eE #[.none,.bytes d (b 1)],false⟩],nn,[],nn⟩,λb ω=>Nn u a.L (.ref (b 0))⟩
theorem HA(b:a.line= #[10])(g:0<=a.place)(h:a.place<=(a.T.size:Nat))(c:a.T.extract a.place.toNat a.T.size=k)(i:a.T.size<=1000000):aO u (λu=>CY u a y k):=by
 have d:aw u (λω=>[tM a.line #[10] true,du a.T k (some a.place) none]):=⟨λe j f=>lB (by rw[b];rfl),de (by
  have e1:(dE (some a.place) (a.T.size:Nat) 0).toNat=a.place.toNat:=by
   simp only[dE];rw[if_neg (by lia)];lia
  have e2:(dE none (a.T.size:Nat) (a.T.size:Nat)).toNat=a.T.size:=by simp[dE]
  rw[e1,e2];exact c) (by lia),cg⟩
 exact sT SI [[],[0]] [0,2] (aE [8,6]) d
noncomputable def HB(u:WB)(a:Nat):End:=Nn u a .none
noncomputable def zc(u:WB)(a:PM)(c:AL):Seg:=
 ⟨iW (HB u a.L),some (iV (HB u a.L) (.send .none)),gc (HB u a.L),a.L,70,⟨[⟨a.L,kU (Pm u) a c,true⟩],[],λb ω=>[kU (Pm u) a c],nn,λb ω=>[],nn,[],nn⟩,λb ω=>.ret (.ok (.ret .none))⟩
theorem HC:aO u (λu=>zc u a y):=
 sT 0x1 [] [0] (aE []) trivial (Y:=λω=>[])
end
variable {p:cl} {C:Wy cl}
noncomputable def ee(a:Nat):gi:=⟨.none,none,.fields #[.int 283 0,.int 4 0,.ref a],#[]⟩
noncomputable def jW(a:Nat):Wz:= .str (lq "_strip_last_newline") a
noncomputable def No(a:AL):ui:=[.str (lq "/claim/cut.py") (a 0),.int 283 0,.int 1 0,.int 0 0,.int 0 0,.int 19 0,.ref (a 1),.bool true,.int 181 0,.ref (a 2),.none,.ref (a 3),.ref (a 4),.ref (a 5),.int (a 6:Nat) 0,.int 283 0,.str (lq "/claim/cut.py") (a 7)]
noncomputable def T7(a:ui):Wz:=(a[0]?).getD .none
noncomputable def T8(a:ui):Nat:=df ((a[1]?).getD .none)
noncomputable def hu(b:Wz):Nat:=match b with
 | .ref a=>a
 |_=>0
noncomputable def HD(c:Nat)(a:gi)(d e f g:cl)(b:Nat):PM:=⟨c,hu (aA a 0),d,df (aA a 1),(b:Int)+1,df (aA a 2),e,df (aA a 3),hu (aA a 4),hu (aA a 6),(b:Int)+1,df (aA a 7),f,df (aA a 8),g,df (aA a 9)⟩
noncomputable def Ro(a:gi):ui:=match a.data with
 | .fields b=>b.toList
 |_=>[]
noncomputable def zd(u:WB)(c:Nat)(d g h b:cl)(j:Nat)(e:Wy cl)(k:Nat)(i l:cl):TG:=λm a n=>
 CW u (HD c (a[0]?.getD default) d g h b j) (λf=>dN (a[0]?.getD default) f) [b] (iB a 1) (eJ a 1) e k i l (hu (fdOf (a[2]?.getD default)).code) (fdOf (a[2]?.getD default)).doc (fdOf (a[2]?.getD default)).pyModule (T7 (Ro (a[3]?.getD default))) (T8 (Ro (a[3]?.getD default))) ((Ro (a[3]?.getD default)).drop 2)
noncomputable def Qq(c f:Nat)(d e h:cl)(b:Nat)(g:cl)(a:AL):PM:=⟨c,f,d,a 7,(b:Int)+1,a 5,e,a 8,a 9,a 2,(b:Int)+1,a 5,g,a 6,h,a 10⟩
noncomputable def Np(b:Nat)(a:AL):AL:=λi=>match i with
 |0=>b
 |i+1=>a (11+i)
noncomputable def iF:Wz:= .str (S [108,97,119,95,106,102,48,48,50,53,95,48,49]) 1466
noncomputable def kV(a:Nat):Wz:= .str (lq "Strip the last newline from value.") a
noncomputable def zf(e:Wy cl)(d:AL)(a b f g:cl)(c:Nat):Wy U:=[hf #[] e a λω=>d,fl a (a.size:Nat),JQ 0 (a.size:Nat) true,pT a #[10] 0 c,CV (c:Nat) (-1) false,du a b (some 0) (some ((c:Int)+1)),vx b #[32] false,tM b #[10] false,y8 b #[32] [f,g]]
noncomputable def HE(u:WB)(b c h f:Nat)(e:Wy cl)(d:AL)(i o g m:cl)(p:Nat)(n:Wy cl)(k:Nat)(j l:cl):Seg:=
 ⟨eo b,none,[],b,90,⟨[⟨b,ot [dx (Pm u) "chunks" h (.ref c)] 1,true⟩,⟨c,cp e d f,false⟩,⟨393,aT,false⟩],[],λa ω=>[nq (Pm u) (Qq b c i g m k j a) (Np h a),cp e d f,ee (a 3)],nn,
  λa ω=>[⟨a 0,eE #[.bytes g (a 8),.bytes l (a 1)],false⟩,⟨a 2,e8 (a 3) (kV (a 4)) iF,false⟩,⟨a 3,dq (jW (a 21)) cZ (a 22) (No (cn 23 a)),false⟩],nn,[],nn⟩,λa ω=>Hw u b (.ref (a 0))⟩
noncomputable def zg(u:WB)(b d k h c:Nat)(f:Wz)(l:Nat)(j:ui)(g:Wy cl)(e:AL)(m s i q:cl)(t:Nat)(r:Wy cl)(o:Nat)(n p:cl):Seg:=
 ⟨eo b,none,[],b,90,⟨[⟨b,ot [dx (Pm u) "chunks" k (.ref d)] 1,true⟩,⟨d,cp g e h,false⟩,⟨393,ee c,false⟩,⟨c,dq f cZ l j,false⟩],[],λa ω=>[nq (Pm u) (Qq b d m i q o n a) (Np k a),cp g e h,ee c,dq f cZ l j],nn,
  λa ω=>[⟨a 0,eE #[.bytes i (a 8),.bytes p (a 1)],false⟩,⟨a 2,e8 c (kV (a 4)) iF,false⟩],nn,[],nn⟩,λa ω=>Hw u b (.ref (a 0))⟩
structure dW(bs:Wy cl)(T:cl):Prop where
 ne:bs≠[]
 join:eI #[] bs=T
 fold:bs.foldl (· + ·.size) 0<=1000000
structure er(T:cl)(p:Int)(kb rb:cl)(UP:Wy cl)(np:Nat)(lp r:cl):Prop where
 go:∃q V,iE T p UP q/\dA T q lp np/\kT (rb::UP) V r
 sp:aB lp #[32]=false
 len:UP.length<1000000
theorem zh(f:dW C k)(d:dA k 0 l a)(h:aB l #[32]=false)(g:eQ l n m):cq u (zf C y k l n m a):=
 ⟨λb e c=>bh f.ne f.join (by have:=d.big;lia) (by have:=f.fold;simp;lia),λb e c=>aD rfl (by have:=d.big;lia),λb e c=>i9 (decide_eq_true d.lt),λb e c=>fO d.p0 d.find,λb e c=>iD (by simp),de (dB d) (by have:=d.big;lia),λb e c=>hA h,λb e c=>lB g.ne,λb e c=>m7 rfl g.sp g.all (by simp),cg⟩
theorem rJ(b:er k ((a:Int)+1) n m A c o p):∀e g f,fj u (zd u d k n l m a A c o p e g f):=λe g f=>by
 obtain⟨q,V,h,i,j⟩:=b.go;exact tN i b.sp A (HD d _ k n l m a) [m] _ _ rfl h j (by have:=b.len;simp;lia)
theorem HF(b:dW C k)(i:dA k 0 l a)(q:aB l #[32]=false)(h:eQ l n m)(j:er k ((a:Int)+1) n m A c o p):
  aO u (λu=>HE u d f g e C y k l n m a A c o p):=
 sT 0x11253f1110222204100f0aaa00009929009012104f01299912bf29011999990108faa204fa012a0510f0f09f111011111211001000f0ed00fd0fd1 [[1],[],[],[],[],[0],[],[],[]] [2,1,0,17,10,9] (aE [5157,6181,43,39,41,7205,8229,2,1829,4133,2341,3,7,9,13,15,45,69,293,3621,0,17,19,21,23,25,29,31,33,35,37]) (zh b i q h) (Y:=λω=>(zf C y k l n m a)) (O:=λu=>[zd u d k n l m a A c o p]) (Q:=⟨rJ j,cg⟩) (M:=[[14,0,6,7]]) (N:=[[]]) (V:=[[]])
theorem HG(b:dW C k)(q:dA k 0 l a)(s:aB l #[32]=false)(j:eQ l n m)(r:er k ((a:Int)+1) n m A c o p):
  aO u (λu=>zg u d f g e h v i L C y k l n m a A c o p):=
 sT 0x1124af111022220400003323003012104f01233312bf23011333330108f44204f401240510f0f09f111011111211001888880991 [[1],[],[],[],[],[0],[],[],[]] [3,2,1,0,12,5] (aE [5133,6157,19,0,17,7181,8205,2,1805,4109,2317,3,7,9,13,15,21,45,269,3597]) (zh b q s j) (Y:=λω=>(zf C y k l n m a)) (O:=λu=>[zd u d k n l m a A c o p]) (Q:=⟨rJ r,cg⟩) (M:=[[8,0,6,11]]) (N:=[[]]) (V:=[[]])
section
variable {a:WA (End×St)}
theorem kW(b:qY (aH a .none)=true):∃f h g d i e,∀c,aH a c= .susp c f h g d i e:=by
 unfold aH at b|-;split at b
 ·exact⟨_,_,_,_,_,_,λc=>rfl⟩
 ·cases b
theorem j6(c:qY (aH a .none)=true):yv (aH a v)=v:=by obtain⟨f,h,g,d,i,e,b⟩:=kW c;rw[b];rfl
theorem rK(c:qY (aH a .none)=true):(aH a v).genState=(aH a .none).genState:=by obtain⟨f,h,g,d,i,e,b⟩:=kW c;rw[b,b];rfl
theorem nr(c:qY (aH a .none)=true):(aH a v).quiet=(aH a .none).quiet:=by obtain⟨f,h,g,d,i,e,b⟩:=kW c;rw[b,b];rfl
theorem rL(c:qY (aH a .none)=true):qY (aH a v)=true:=by obtain⟨f,h,g,d,i,e,b⟩:=kW c;rw[b];rfl
theorem dX{S:Seg}(h:qY (aH a .none)=true)(b:S.code=iW (aH a .none))(c:S.start=some (iV (aH a .none) (.send .none)))(d:S.fs=gc (aH a .none)):bb (aH a .none).genState S:=by obtain⟨g,j,i,l,k,f,e⟩:=kW h;rw[e]at b c d|-;exact .inr ⟨i,j,k,(g||f.any Frame.guarded),by rw[b,d];rfl,c⟩
theorem rM(u:WB)(a:Nat):qY (aH (vz u a) .none)=true:=by obtain⟨b,b1,b2⟩:=u;cases b1<;>kernel_rfl
theorem nt(u:WB)(a:Nat):(aH (vz u a) .none).quiet=true:=by obtain⟨b,b1,b2⟩:=u;cases b1<;>kernel_rfl
theorem zi(u:WB)(a:Nat):qY (aH (pV u a) .none)=true:=by obtain⟨b,b1,b2⟩:=u;cases b1<;>kernel_rfl
theorem xn(u:WB)(a:Nat):(aH (pV u a) .none).quiet=true:=by obtain⟨b,b1,b2⟩:=u;cases b1<;>kernel_rfl
noncomputable def ye(d b:Nat)(e f:Wz)(h i:WI)(S:Seg)(g:Nat):Spec:=⟨um "generator.__next__" [.ref d],S.dep+30,none,⟨⟨d,ey b e f,false⟩::S.UM.pre,(b,h)::S.UM.UR,λa c=>ey b e f::S.UM.post a c,λa c=>i::S.UM.UQ a c,S.UM.new,S.UM.UW,S.UM.UX,S.UM.US⟩,λa ω=>uj (.ref (a g))⟩
theorem vC{b:WI}{S:Seg}(o:fj u S)(n:bb b S)(l:∃j,(⟨S.fr,j,true⟩:aF)∈S.UM.pre/\ew j=true)(g:qY (aH a .none)=true)(m:(aH a .none).quiet=true)(i:∀e f,S.res e f=aH a (.ref (e d))):OK u (ye h c v x b (aH a .none).genState S d):=by
 have k:OK u (yB h c v x b S):=l4 (gR _) o n l (λe f=>by rw[i,nr g];exact m) (λe f=>by rw[i];exact rL g)
 refine k.alt rfl rfl rfl rfl rfl rfl λe f=>⟨e,f, ?_,rfl, ?_,rfl,rfl,rfl⟩
 ·refine(?_:Except.ok (Flow.ret (yv (S.res e f)))=_);rw[i,j6 g];rfl
 ·refine(?_:(S.res e f).genState::_=_);rw[i,rK g];rfl
noncomputable def fe(u:WB)(a:Nat):WI:=(aH (vz u a) .none).genState
noncomputable def iG(u:WB)(a:Nat):WI:=(aH (pV u a) .none).genState
variable {q:Nat}
theorem HH{b:Nat}{a:cl}(h:dW C m)(p:dA m 0 n g)(s:aB n #[32]=false)(i:eQ n k l)(r:er m ((g:Int)+1) k l A f o a):
  OK u (ye e c v x (.fresh (eo d)) (fe u d) (HE u d b q j C y m n k l g A f o a) 0):=
 vC (HF h p s i r) (.inl ⟨rfl,rfl,rfl⟩) ⟨_,.head _,rfl⟩ (rM u d) (nt u d) λt w=>rfl
variable {p:ui} {r:Nat} {h:Wz}
theorem pW{b:Nat}{a:cl}(s:dW C m)(w:dA m 0 n g)(D:aB n #[32]=false)(t:eQ n k l)(z:er m ((g:Int)+1) k l A f o a):
  OK u (ye e c v x (.fresh (eo d)) (fe u d) (zg u d b q j i h r p C y m n k l g A f o a) 0):=
 vC (HG s w D t z) (.inl ⟨rfl,rfl,rfl⟩) ⟨_,.head _,rfl⟩ (rM u d) (nt u d) λG H=>rfl
variable {b:PM}
theorem fT{a:cl}{d g:Wz}(s:eQ b.line k l)(j:er b.T b.place k l A f o a):
  OK u (ye e c v x (fe u b.L) (fe u b.L) (Hy u b y k l A f o a i d g h r p) 3):=by obtain⟨w,V,m,n,q⟩:=j.go;exact vC (Hz s m n j.sp q j.len) (dX (rM u b.L) rfl rfl rfl) ⟨_,.head _,rfl⟩ (rM u b.L) (nt u b.L) λt z=>rfl
theorem zj(f:b.line= #[10])(a:0<=b.place)(d:b.place<=(b.T.size:Nat))(g:b.T.extract b.place.toNat b.T.size=k)(h:b.T.size<=1000000):
  OK u (ye e c v x (fe u b.L) (iG u b.L) (CY u b y k) 0):=
 vC (HA f a d g h) (dX (rM u b.L) rfl rfl rfl) ⟨_,.head _,rfl⟩ (zi u b.L) (xn u b.L) λi j=>rfl
theorem tO:OK u (hy e c v x (iG u b.L) (zc u b y)):=
 j9 (gR _) HC (dX (zi u b.L) rfl rfl rfl) ⟨_,.head _,rfl⟩ λa d=>rfl
end
section
noncomputable def zk(e:uh)(c:Nat)(b:Env):Code:=match mj PW.main.body e with
 | .For f _ a d _=>.forLoop f (.ref c) a d b
 |_=>.call .none ⟨[],[]⟩
noncomputable def Nq(a:Nat):Env:=xi [52] (lq "_parse_commit.<locals>.") 649 648 a []
noncomputable def HI(b a:Nat):Code:=zk [52,10] b (Nq a)
structure PC where
 L:Nat
 (ch sg:Wz)
 (lp le:Nat)
 (tree UK UL encoding message:Wz)
 ls:Nat
 U0:Bool
 (field value:Wz)
noncomputable def tQ(a:WC)(c:PC)(b:Nat->Nat):gi:=ot [dx a "chunks" (b 0) c.ch,dx a "signature_header" (b 1) c.sg,dx a "parents" (b 2) (.ref c.lp),dx a "extra" (b 3) (.ref c.le),dx a "tree" (b 4) c.tree,dx a "author" (b 5) c.UK,dx a "committer" (b 6) c.UL,dx a "encoding" (b 7) c.encoding,dx a "message" (b 8) c.message,dx a "signatures" (b 9) (.ref c.ls),dx a "in_parents" (b 10) (.bool c.U0),dx a "field" (b 11) c.field,dx a "value" (b 12) c.value] 13
structure PG where
 (ga g:Nat)
 (nm qn:Wz)
 x:PM
 ks:AL
 cc:Nat
 (doc pm a:Wz)
 tq:Nat
 l:ui
noncomputable def vD(c:WC)(b:PG):Wy aF:=⟨b.ga,ey b.g b.nm b.qn,false⟩::zb c b.x b.ks b.cc b.doc b.pm b.a b.tq b.l
noncomputable def g5(u:WB)(b:PG)(d i:cl)(c:Wy cl)(f:Nat)(e h:cl):U:=λj m k=>ye b.ga b.g b.nm b.qn (fe u b.x.L) (fe u b.x.L) (Hy u b.x b.ks d i c f e h b.cc b.doc b.pm b.a b.tq b.l) 3
noncomputable def tR(a:PG)(b f:cl)(e:Nat)(c:cl)(g h d i j:Nat):PG:={a with x:=kj (vA a.x b f g h d) e c i j}
structure PS where
 x:PC
 ks:AL
 y:PG
 ps:Wy cl
 F:AL
 ep:Nat
 xs:ug
 E:Wy dh
 VG:Nat
 sg:Wy cl
 G:AL
 VL:Nat
inductive Kd where
 |tree|parent|UK|UL|encoding|sig|tag|rename
noncomputable def az:Kd->cl
 | .tree=> #[116,114,101,101]
 | .parent=> #[112,97,114,101,110,116]
 | .UK=> #[97,117,116,104,111,114]
 | .UL=> #[99,111,109,109,105,116,116,101,114]
 | .encoding=> #[101,110,99,111,100,105,110,103]
 | .sig=> #[103,112,103,115,105,103]
 | .tag=> #[109,101,114,103,101,116,97,103]
 | .rename=> #[72,71,58,114,101,110,97,109,101]
structure dm where
 kind:Kd
 rb:cl
 UP:Wy cl
 np:Nat
 (lp r:cl)
noncomputable def nu:Wz->Bool
 | .none=>true
 |_=>false
noncomputable def dn(a:PS)(b:dm)(c:AL):PS:=
 let d:PS:={a with y:=tR a.y (az b.kind) b.rb b.np b.lp (c 0) (c 1) (c 2) (c 4) (c 5)}
 let x:PC:={a.x with field:= .bytes (az b.kind) (c 0),value:= .bytes b.r (c 3)}
 match b.kind with
 | .parent=>match a.x.U0 with
  |true=>{d with x:=x,ps:=a.ps++[b.r],F:=mm a.F a.ps.length (c 3),ep:=a.ep+1}
  |false=>{d with x:=x}
 | .UK=>{d with x:={x with U0:=false,UK:= .bytes b.r (c 3)}}
 | .UL=>{d with x:={x with U0:=false,UL:= .bytes b.r (c 3)}}
 | .encoding=>{d with x:={x with U0:=false,encoding:=(match nu a.x.encoding with|true=>.bytes b.r (c 3)|false=>a.x.encoding)}}
 | .sig=>{d with x:={x with U0:=false},sg:=a.sg++[b.r],G:=mm a.G a.sg.length (c 3),VL:=a.VL+1}
 | .tag=>{d with x:={x with U0:=false},xs:=a.xs++ #[.ref (c 6)],E:=a.E++[(az b.kind,b.r)],VG:=a.VG+1}
 | .rename=>{d with x:={x with U0:=false},xs:=a.xs++ #[.ref (c 6)],E:=a.E++[(az b.kind,b.r)],VG:=a.VG+1}
 | .tree=>{d with x:={x with U0:=false}}
noncomputable def eX(b:PS):Wy dm->AL->PS
 |[],_=>b
 |d::c,a=>eX (dn b d a) c (cn 7 a)
noncomputable def bc:Wy dm->AL->AL
 |[],a=>a
 |_::b,a=>bc b (cn 7 a)
noncomputable def FZ(b:WC)(a:PS):Wy aF:=⟨a.x.L,tQ b a.x a.ks,true⟩::(vD b a.y++[⟨a.x.lp,cp a.ps a.F a.ep,false⟩,⟨a.x.le,cm a.xs a.VG,false⟩,⟨a.x.ls,cp a.sg a.G a.VL,false⟩])
noncomputable def F0(c:WC)(b:PS)(e:cl)(d:AL):uk:=[tQ c {b.x with field:= .none,value:= .bytes e (d 0),message:= .bytes e (d 0),U0:=false} b.ks,ey b.y.g b.y.nm b.y.qn,kU c b.y.x b.y.ks,e8 b.y.cc b.y.doc b.y.pm,dq b.y.a cZ b.y.tq b.y.l,cp b.ps b.F b.ep,cm b.xs b.VG,cp b.sg b.G b.VL]
noncomputable def kk(c:WC)(e:PS)(b:Wy dm)(d:cl)(a:AL):uk:=F0 c (eX e b a) d (bc b a)
noncomputable def tS(c:PS)(b:Wy dm)(a:AL):Wy jz:=[⟨(eX c b a).xs,(eX c b a).E⟩]
noncomputable def fi(u:WB)(a:PS)(c:Wy dm)(d:cl):Spec:=
 ⟨HI a.y.ga a.x.L,160,some a.x.L,⟨FZ (Pm u) a,[(a.y.g,fe u a.y.x.L)],λb ω=>kk (Pm u) a c d b,λω ω=>[.finished],nn,nn,[⟨a.xs,a.E⟩],λb ω=>tS a c b⟩,λω ω=>.ok .next⟩
noncomputable def ou(a:uk):AL:=λb=>match b with
 |0=>df (aA (a[0]?.getD default) 11)
 |1=>df (aA (a[2]?.getD default) 9)
 |2=>hu (aA (a[2]?.getD default) 4)
 |3=>df (aA (a[0]?.getD default) 12)
 |4=>df (aA (a[2]?.getD default) 2)
 |5=>df (aA (a[2]?.getD default) 8)
 |_=>hu (l8 a 8 1)
noncomputable def mn(c:ug):U:=λa b d=>FR "list.append" [.ref (ad a 0),arg a 1] [(ad a 0,cm c (eJ b 0))] [cm (c++ #[arg a 1]) (eJ b 0+1)] .none
theorem fU(e:H.size<=1000000):∀a b c,OK u (mn H a b c):=λa b c=>by
 have:=lC (P:=PW) (w:=W2 u) (K:=KB (W2 u)) (l:=ad a 0) (as:=H) (ep:=eJ b 0) (v:=arg a 1) e;refine this.alt rfl rfl rfl rfl rfl rfl λd f=>⟨d,f,rfl, ?_,rfl,rfl,rfl,rfl⟩
 refine(?_:[cm _ _]=[cm _ _]);rw[Array.push_eq_append]
noncomputable def gC(a:PS)(b:cl)(d c:Nat):PS:={a with x:={a.x with tree:= .bytes b d,sg:= .bytes (az .sig) c}}
noncomputable def cu(a:dm)(b:Kd):dm:={a with kind:=b}
structure fV(s:PS)(d:dm):Prop where
 hh:eQ s.y.x.line (az d.kind) d.rb
 hr:er s.y.x.T s.y.x.place (az d.kind) d.rb d.UP d.np d.lp d.r
noncomputable def ff(a:cl):Prop:=(∃b c,gV a b c 0 20)/\a.size=40
variable {Q:Wy dm} {d0:dm} {tt ts:Nat} {tb:cl} {a:PS}
theorem CZ(f:fV a (cu d0 .UK))(h:∀b,OK u (fi u (dn ({(gC a tb tt ts)with x:={(gC a tb tt ts).x with UK:= .none}}) (cu d0 .UK) b) Q k)):
  aI u (λu=>fi u ({(gC a tb tt ts)with x:={(gC a tb tt ts).x with UK:= .none}}) (cu d0 .UK::Q) k):=by
 have g:aw u (λu=>[g5 u a.y (az .UK) (cu d0 .UK).rb (cu d0 .UK).UP (cu d0 .UK).np (cu d0 .UK).lp (cu d0 .UK).r,λd c e=>fi u (dn ({(gC a tb tt ts)with x:={(gC a tb tt ts).x with UK:= .none}}:PS) (cu d0 .UK) (ou c)) Q k]):=⟨λd c e=>fT f.hh f.hr,λd c e=>h _,cg⟩
 exact oT 0x13201223310f0f09f1110111112110021bf511f604f0011555552 [[1,2,3,4],[4,5,6,7,8,9,10,11]] [7,6,5,4,3,2,1,0] (dT [0,2,4,8,10,12,6] λb=>dI (cn 7 (odd b))) g (G:=[[0],[0]]) (J:=[[],[.UO 0]]) (I:=[0]) (R:=[.UO 0])
theorem Db(f:fV a (cu d0 .UL))(h:∀b,OK u (fi u (dn ({(gC a tb tt ts)with x:={(gC a tb tt ts).x with UL:= .none}}) (cu d0 .UL) b) Q k)):
  aI u (λu=>fi u ({(gC a tb tt ts)with x:={(gC a tb tt ts).x with UL:= .none}}) (cu d0 .UL::Q) k):=by
 have g:aw u (λu=>[g5 u a.y (az .UL) (cu d0 .UL).rb (cu d0 .UL).UP (cu d0 .UL).np (cu d0 .UL).lp (cu d0 .UL).r,λd c e=>fi u (dn ({(gC a tb tt ts)with x:={(gC a tb tt ts).x with UL:= .none}}:PS) (cu d0 .UL) (ou c)) Q k]):=⟨λd c e=>fT f.hh f.hr,λd c e=>h _,cg⟩
 exact oT 0x13201223310f0f09f11101111121100220f516fb04f0011555552 [[1,2,3,4],[4,5,6,7,8,9,10,11]] [7,6,5,4,3,2,1,0] (dT [0,2,4,8,10,12,6] λb=>dI (cn 7 (odd b))) g (G:=[[0],[0]]) (J:=[[],[.UO 0]]) (I:=[0]) (R:=[.UO 0])
theorem Dc(f:fV a (cu d0 .encoding))(h:∀b,OK u (fi u (dn ({(gC a tb tt ts)with x:={(gC a tb tt ts).x with encoding:= .none}}) (cu d0 .encoding) b) Q k)):
  aI u (λu=>fi u ({(gC a tb tt ts)with x:={(gC a tb tt ts).x with encoding:= .none}}) (cu d0 .encoding::Q) k):=by
 have g:aw u (λu=>[g5 u a.y (az .encoding) (cu d0 .encoding).rb (cu d0 .encoding).UP (cu d0 .encoding).np (cu d0 .encoding).lp (cu d0 .encoding).r,λd c e=>fi u (dn ({(gC a tb tt ts)with x:={(gC a tb tt ts).x with encoding:= .none}}:PS) (cu d0 .encoding) (ou c)) Q k]):=⟨λd c e=>fT f.hh f.hr,λd c e=>h _,cg⟩
 exact oT 0x13201223310f0f09f11101111121100109f551bff04f5001155552 [[1,2,3,4],[4,5,6,7,8,9,10,11]] [7,6,5,4,3,2,1,0] (dT [0,2,4,8,10,12,6] λb=>dI (cn 7 (odd b))) g (G:=[[0],[0]]) (J:=[[],[.UO 0]]) (I:=[0]) (R:=[.UO 0])
theorem Dd(g:fV a (cu d0 .encoding))(i:∀b,OK u (fi u (dn ({(gC a tb tt ts)with x:={(gC a tb tt ts).x with encoding:= .bytes l c}}) (cu d0 .encoding) b) Q k)):
  aI u (λu=>fi u ({(gC a tb tt ts)with x:={(gC a tb tt ts).x with encoding:= .bytes l c}}) (cu d0 .encoding::Q) k):=by
 have h:aw u (λu=>[g5 u a.y (az .encoding) (cu d0 .encoding).rb (cu d0 .encoding).UP (cu d0 .encoding).np (cu d0 .encoding).lp (cu d0 .encoding).r,λe d f=>fi u (dn ({(gC a tb tt ts)with x:={(gC a tb tt ts).x with encoding:= .bytes l c}}:PS) (cu d0 .encoding) (ou d)) Q k]):=⟨λe d f=>fT g.hh g.hr,λe d f=>i _,cg⟩
 exact oT 0x13201223310f0f09f11101111121100155507f55f04f15001152 [[1,2,3,4],[4,5,6,7,8,9,10,11]] [7,6,5,4,3,2,1,0] (dT [0,2,4,8,10,12,6] λb=>dI (cn 6 (odd b))) h (G:=[[0],[0]]) (J:=[[],[.UO 0]]) (I:=[0]) (R:=[.UO 0])
theorem De(f:fV a (cu d0 .tree))(h:∀b,OK u (fi u (dn (gC a tb tt ts) (cu d0 .tree) b) Q k)):
  aI u (λu=>fi u (gC a tb tt ts) (cu d0 .tree::Q) k):=by
 have g:aw u (λu=>[g5 u a.y (az .tree) (cu d0 .tree).rb (cu d0 .tree).UP (cu d0 .tree).np (cu d0 .tree).lp (cu d0 .tree).r,λd c e=>fi u (dn (gC a tb tt ts:PS) (cu d0 .tree) (ou c)) Q k]):=⟨λd c e=>fT f.hh f.hr,λd c e=>h _,cg⟩
 exact oT 0x13201223310f0f09f11101111121100155507f555001152 [[1,2,3,4],[4,5,6,7,8,9,10,11]] [7,6,5,4,3,2,1,0] (dT [0,2,4,8,10,12,6] λb=>dI (cn 6 (odd b))) g (G:=[[0],[0]]) (J:=[[],[.UO 0]]) (I:=[0]) (R:=[.UO 0])
theorem Df(f:fV a (cu d0 .parent))(h:∀b,OK u (fi u (dn ({(gC a tb tt ts)with x:={(gC a tb tt ts).x with U0:=false}}) (cu d0 .parent) b) Q k)):
  aI u (λu=>fi u ({(gC a tb tt ts)with x:={(gC a tb tt ts).x with U0:=false}}) (cu d0 .parent::Q) k):=by
 have g:aw u (λu=>[g5 u a.y (az .parent) (cu d0 .parent).rb (cu d0 .parent).UP (cu d0 .parent).np (cu d0 .parent).lp (cu d0 .parent).r,λd c e=>fi u (dn ({(gC a tb tt ts)with x:={(gC a tb tt ts).x with U0:=false}}:PS) (cu d0 .parent) (ou c)) Q k]):=⟨λd c e=>fT f.hh f.hr,λd c e=>h _,cg⟩
 exact oT 0x13201223310f0f09f111011111211001100f704f0011552 [[1,2,3,4],[4,5,6,7,8,9,10,11]] [7,6,5,4,3,2,1,0] (dT [0,2,4,8,10,12,6] λb=>dI (cn 5 (odd b))) g (G:=[[0],[0]]) (J:=[[],[.UO 0]]) (I:=[0]) (R:=[.UO 0])
theorem Dg(f:fV a (cu d0 .parent))(j:ff d0.r)(g:a.ps.length<=1000000)(m:∀e,OK u (fi u (dn ({(gC a tb tt ts)with x:={(gC a tb tt ts).x with U0:=true}}) (cu d0 .parent) e) Q k)):
  aI u (λu=>fi u ({(gC a tb tt ts)with x:={(gC a tb tt ts).x with U0:=true}}) (cu d0 .parent::Q) k):=by
 have i:aw u (λu=>[g5 u a.y (az .parent) (cu d0 .parent).rb (cu d0 .parent).UP (cu d0 .parent).np (cu d0 .parent).lp (cu d0 .parent).r,λb c d=>rI (cu d0 .parent).r (tk b 0) (lq "invalid parent sha") (tk b 1),rC a.ps a.F (cu d0 .parent).r,λb c d=>fi u (dn ({(gC a tb tt ts)with x:={(gC a tb tt ts).x with U0:=true}}:PS) (cu d0 .parent) (ou c)) Q k]):=⟨λb c d=>fT f.hh f.hr,λb c d=>(by obtain⟨⟨n,o,h⟩,l⟩:=j;exact nj h l),iz g,λb c d=>m _,cg⟩
 exact oT 0x13201223310f0f09f111011111211001100f704f00115505015aaaa501a22 [[1,2,3,4],[],[9],[4,5,6,7,8,9,10,11]] [7,6,5,4,3,2,1,0] (dT [0,2,4,8,10,12,6] λe=>dI (odd (odd (cn 6 (odd e))))) i (G:=[[0],[],[],[0]]) (J:=[[],[],[],[.UO 0]]) (I:=[0]) (R:=[.UO 0])
theorem Dh(f:fV a (cu d0 .sig))(g:a.sg.length<=1000000)(i:∀b,OK u (fi u (dn (gC a tb tt ts) (cu d0 .sig) b) Q k)):
  aI u (λu=>fi u (gC a tb tt ts) (cu d0 .sig::Q) k):=by
 have h:aw u (λu=>[g5 u a.y (az .sig) (cu d0 .sig).rb (cu d0 .sig).UP (cu d0 .sig).np (cu d0 .sig).lp (cu d0 .sig).r,rC a.sg a.G (cu d0 .sig).r,λd c e=>fi u (dn (gC a tb tt ts:PS) (cu d0 .sig) (ou c)) Q k]):=⟨λd c e=>fT f.hh f.hr,iz g,λd c e=>i _,cg⟩
 exact oT 0x13201223310f0f09f11101111121100155507f55f04f150104f01155cccc501c22 [[1,2,3,4],[11],[4,5,6,7,8,9,10,11]] [7,6,5,4,3,2,1,0] (dT [0,2,4,8,10,12,6] λb=>dI (odd (cn 6 (odd b)))) h (G:=[[0],[],[0]]) (J:=[[],[],[.UO 0]]) (I:=[0]) (R:=[.UO 0])
noncomputable def SJ:Nat:=0x13201223310f0f09f11101111121100155507f55f04f150104f011555bbbb55001c22
theorem Di(f:fV a (cu d0 .tag))(g:a.xs.size<=1000000)(i:∀b,OK u (fi u (dn (gC a tb tt ts) (cu d0 .tag) b) Q k)):
  aI u (λu=>fi u (gC a tb tt ts) (cu d0 .tag::Q) k):=by
 have h:aw u (λu=>[g5 u a.y (az .tag) (cu d0 .tag).rb (cu d0 .tag).UP (cu d0 .tag).np (cu d0 .tag).lp (cu d0 .tag).r,mn a.xs,λd c e=>fi u (dn (gC a tb tt ts:PS) (cu d0 .tag) (ou c)) Q k]):=⟨λd c e=>fT f.hh f.hr,fU g,λd c e=>i _,cg⟩
 exact oT SJ [[1,2,3,4],[11],[5,6,7,8,9,10,11,12]] [7,6,5,4,3,2,1,0] (dT [0,2,4,8,10,12,13] λb=>dI (odd (cn 7 (odd b)))) h (G:=[[0],[],[0]]) (J:=[[],[],[.app (.UO 0) (.cells [0])]]) (I:=[0]) (R:=[.UO 0])
theorem Dj(f:fV a (cu d0 .rename))(g:a.xs.size<=1000000)(i:∀b,OK u (fi u (dn (gC a tb tt ts) (cu d0 .rename) b) Q k)):
  aI u (λu=>fi u (gC a tb tt ts) (cu d0 .rename::Q) k):=by
 have h:aw u (λu=>[g5 u a.y (az .rename) (cu d0 .rename).rb (cu d0 .rename).UP (cu d0 .rename).np (cu d0 .rename).lp (cu d0 .rename).r,mn a.xs,λd c e=>fi u (dn (gC a tb tt ts:PS) (cu d0 .rename) (ou c)) Q k]):=⟨λd c e=>fT f.hh f.hr,fU g,λd c e=>i _,cg⟩
 exact oT SJ [[1,2,3,4],[11],[5,6,7,8,9,10,11,12]] [7,6,5,4,3,2,1,0] (dT [0,2,4,8,10,12,13] λb=>dI (odd (cn 7 (odd b)))) h (G:=[[0],[],[0]]) (J:=[[],[],[.app (.UO 0) (.cells [0])]]) (I:=[0]) (R:=[.UO 0])
end
variable {Q:Wy dm}
section
noncomputable def zl(c:PC)(a:cl)(b:Nat):PC:={c with field:= .none,value:= .bytes a b,message:= .bytes a b,U0:=false}
noncomputable def HJ(b:WC)(a:PS)(c:cl)(d:Nat):Wy aF:=[⟨a.x.L,tQ b (zl a.x c d) a.ks,true⟩,⟨a.y.ga,ey a.y.g a.y.nm a.y.qn,false⟩,⟨a.y.x.L,kU b a.y.x a.y.ks,true⟩]
noncomputable def Nr(u:WB)(a:PS)(b:cl)(c:Nat):Spec:=
 ⟨HI a.y.ga a.x.L,160,some a.x.L,⟨HJ (Pm u) a b c,[(a.y.g,iG u a.y.x.L)],λd ω=>[tQ (Pm u) (zl a.x b c) a.ks,ey a.y.g a.y.nm a.y.qn,kU (Pm u) a.y.x a.y.ks],λω ω=>[.finished],nn,nn,[],nn⟩,λω ω=>.ok .next⟩
variable {a:PS}
theorem HK:aI u (λu=>Nr u a k c):=
 oU 0x132012213 [[1,2]] [2,1,0] (aE []) ⟨λb e d=>tO,cg⟩ (Y:=λu=>[λb e d=>hy a.y.ga a.y.g a.y.nm a.y.qn (iG u a.y.x.L) (zc u a.y.x a.y.ks)]) (G:=[[0]]) (I:=[0])
noncomputable def Rp(u:WB)(a:PS)(c:cl):Spec:=
 ⟨HI a.y.ga a.x.L,160,some a.x.L,⟨FZ (Pm u) a,[(a.y.g,fe u a.y.x.L)],λb ω=>F0 (Pm u) a c b,λω ω=>[.finished],nn,nn,[⟨a.xs,a.E⟩],λb ω=>[⟨a.xs,a.E⟩]⟩,λω ω=>.ok .next⟩
theorem HL{s:PS}{tb:cl}{tt ts:Nat}{msg:cl}(h:s.y.x.line= #[10])(e:0<=s.y.x.place)(f:s.y.x.place<=(s.y.x.T.size:Nat))(i:s.y.x.T.extract s.y.x.place.toNat s.y.x.T.size=msg)(j:s.y.x.T.size<=1000000):aI u (λu=>Rp u (gC s tb tt ts) msg):=
 oT 0x13201223310f0f09f1115f1112110015580af55f07fa07f0407f01101155552 [[1,2],[4,5,6]] [7,6,5,4,3,2,1,0] (dT [2] λd=>dI (cn 7 (odd d))) ⟨λb a c=>zj h e f i j,λb a c=>HK,cg⟩ (Y:=λu=>[λb a c=>ye s.y.ga s.y.g s.y.nm s.y.qn (fe u s.y.x.L) (iG u s.y.x.L) (CY u s.y.x s.y.ks msg) 0,λb a c=>Nr u (gC s tb tt ts:PS) msg (df (aA (a[0]?.getD default) 12))]) (G:=[[0],[0]]) (I:=[0]) (R:=[.UO 0])
noncomputable def gd(a b:cl):Wy dm->cl->Int->Bool->Bool->Bool->Bool->Nat->Prop
 |[],j,i,_,_,_,_,_=>j= #[10]/\0<=i/\i<=(a.size:Nat)/\a.extract i.toNat a.size=b/\a.size<=1000000
 |d::g,j,i,k,e,f,h,c=>eQ j (az d.kind) d.rb/\er a i (az d.kind) d.rb d.UP d.np d.lp d.r/\c<100000/\(match d.kind with
  | .parent=>(k=true->ff d.r)/\gd a b g d.lp ((d.np:Int)+1) k e f h (c+1)
  | .UK=>e=false/\gd a b g d.lp ((d.np:Int)+1) false true f h (c+1)
  | .UL=>f=false/\gd a b g d.lp ((d.np:Int)+1) false e true h (c+1)
  | .encoding=>gd a b g d.lp ((d.np:Int)+1) false e f true (c+1)
  | .sig=>gd a b g d.lp ((d.np:Int)+1) false e f h (c+1)
  | .tag=>gd a b g d.lp ((d.np:Int)+1) false e f h (c+1)
  | .rename=>gd a b g d.lp ((d.np:Int)+1) false e f h (c+1)
  | .tree=>gd a b g d.lp ((d.np:Int)+1) false e f h (c+1))
structure Rq(s:PS)(T line:cl)(place:Int)(U0 au co en:Bool)(n:Nat):Prop where
 T:s.y.x.T=T
 line:s.y.x.line=line
 place:s.y.x.place=place
 U0:s.x.U0=U0
 au:au=false->s.x.UK= .none
 co:co=false->s.x.UL= .none
 en:(en=false->s.x.encoding= .none)/\(en=true->∃eb et,s.x.encoding= .bytes eb et)
 tree:∃tb tt,s.x.tree= .bytes tb tt
 sg:∃ts,s.x.sg= .bytes (az .sig) ts
 ps:s.ps.length<=n
 xs:s.xs.size<=n
 UY:s.sg.length<=n
theorem jg(b:a.x.tree= .bytes k d)(e:a.x.sg= .bytes (az .sig) c):gC a k d c=a:=by obtain⟨f,r,G,x,F,n,D,E,p,y,g,o⟩:=a;obtain⟨h,j,z,t,s,A,i,l,m,w,v,q,field,C⟩:=f;simp only at b e;subst b e;rfl
theorem Nt(b:a.x.UK= .none):{a with x:={a.x with UK:= .none}}=a:=by obtain⟨x,l,y,q,F,h,w,E,j,r,c,i⟩:=a;obtain⟨d,e,s,n,m,t,UK,f,g,p,o,k,field,v⟩:=x;simp only at b;subst b;rfl
theorem Nu(b:a.x.UL= .none):{a with x:={a.x with UL:= .none}}=a:=by obtain⟨x,l,y,q,F,h,w,E,j,r,c,i⟩:=a;obtain⟨d,f,s,n,m,t,e,UL,g,p,o,k,field,v⟩:=x;simp only at b;subst b;rfl
variable {c:Wz}
theorem F1(b:a.x.encoding=c):{a with x:={a.x with encoding:=c}}=a:=by obtain⟨x,m,z,r,F,i,y,E,k,s,d,j⟩:=a;obtain⟨e,g,t,o,n,v,f,h,encoding,q,p,l,field,w⟩:=x;simp only at b;subst b;rfl
theorem F2{c:Bool}(b:a.x.U0=c):{a with x:={a.x with U0:=c}}=a:=by obtain⟨x,m,z,r,F,j,y,E,l,s,d,k⟩:=a;obtain⟨e,g,t,o,n,v,f,h,i,q,p,U0,field,w⟩:=x;simp only at b;subst b;rfl
variable {b:PS}
theorem YD(c:b=a)(d:a.x.UK= .none):{b with x:={b.x with UK:= .none}}=a:=by subst c;exact Nt d
theorem YE(c:b=a)(d:a.x.UL= .none):{b with x:={b.x with UL:= .none}}=a:=by subst c;exact Nu d
theorem Yw(d:b=a)(e:a.x.encoding=c):{b with x:={b.x with encoding:=c}}=a:=by subst d;exact F1 e
theorem Yx{c:Bool}(d:b=a)(e:a.x.U0=c):{b with x:={b.x with U0:=c}}=a:=by subst d;exact F2 e
noncomputable def bJ(u:WB)(b:Wy dm)(c:cl)(d:PS)(a:dm):Prop:=(∀e,OK u (fi u (dn d a e) b c))->OK u (fi u d (a::b) c)
theorem bJ.of{c:dm}(d:b=a)(e:bJ u Q k b c):bJ u Q k a c:=d▸e
theorem fV.of{c:dm}(b:a.y.x.T=l)(d:a.y.x.line=k)(e:a.y.x.place=q)(f:eQ k (az c.kind) c.rb)(g:er l q (az c.kind) c.rb c.UP c.np c.lp c.r):fV a c:=by subst b d e;exact⟨f,g⟩
variable {d:Type}
theorem kI{c:Wy d}{b:d}{a:Nat}(e:c.length<=a):(c++[b]).length<=a+1:=List.length_append▸Nat.succ_le_succ e
theorem c2{c:WD d}{b:d}{a:Nat}(e:c.size<=a):(c++ #[b]).size<=a+1:=Array.size_append▸Nat.succ_le_succ e
theorem b3{b a:Nat}(c:b<=a)(d:a<100000):b<=1000000:=by lia
theorem bq{a:Prop}(b:true=false):a:=Bool.noConfusion b
theorem sF(b:a.x.encoding=c):(match nu a.x.encoding with|true=>v|false=>a.x.encoding)=(match nu c with|true=>v|false=>c):=b▸rfl
variable {al:AL} {x:PS}
theorem YF(a:x.x.U0=false){d:dm}(b:d.kind= .parent):dn x d al={x with y:=tR x.y (az d.kind) d.rb d.np d.lp (al 0) (al 1) (al 2) (al 4) (al 5),x:={x.x with field:= .bytes (az d.kind) (al 0),value:= .bytes d.r (al 3)}}:=by unfold dn;rw[b,a]
theorem YG(a:x.x.U0=true){d:dm}(b:d.kind= .parent):dn x d al={x with y:=tR x.y (az d.kind) d.rb d.np d.lp (al 0) (al 1) (al 2) (al 4) (al 5),x:={x.x with field:= .bytes (az d.kind) (al 0),value:= .bytes d.r (al 3)},ps:=x.ps++[d.r],F:=mm x.F x.ps.length (al 3),ep:=x.ep+1}:=by unfold dn;rw[b,a]
theorem gD:∀(w:Wy dm) (r:PS) (C:cl) (D:Int) (A G H z:Bool) (J:Nat),Rq r l C D A G H z J->gd l k w C D A G H z J->OK u (fi u r w k):=by
 intro w;induction w with
 |nil=>
  intro r C D A G H z J a v;obtain⟨i,m,M⟩:=a.tree;obtain⟨j,L⟩:=a.sg;obtain⟨Y,F,R,V,W⟩:=v;obtain⟨e1,e2,e3⟩:r.y.x.T=l/\r.y.x.line=C/\r.y.x.place=D:=⟨a.T,a.line,a.place⟩;clear a;subst e1 e2 e3;exact jg M L▸HL (u:=u) (s:=r) (tb:=i) (tt:=m) (ts:=j) (msg:=k) Y F R V W
 |cons N w p=>
  intro r C D A G H z J a v;obtain⟨i,m,M⟩:=a.tree;obtain⟨j,L⟩:=a.sg;have n:=jg M L;have o:fV r N:= .of a.T a.line a.place v.1 v.2.1;have I:=v.2.2.1;have b:=v.2.2.2;clear v;obtain⟨P,h,e,g,f,c⟩:=N;have q:=Nat.le_succ_of_le a.ps;have t:=Nat.le_succ_of_le a.xs;have s:=Nat.le_succ_of_le a.UY;cases P with
  |UK=>exact bJ.of (YD n (a.au b.1)) (CZ (u:=u) (tb:=i) (tt:=m) (ts:=j) (d0:=⟨.UK,h,e,g,f,c⟩) o) λd=>p _ _ _ _ _ _ _ _ ⟨a.T,rfl,rfl,rfl,bq,a.co,a.en,a.tree,a.sg,q,t,s⟩ b.2
  |UL=>exact bJ.of (YE n (a.co b.1)) (Db (u:=u) (tb:=i) (tt:=m) (ts:=j) (d0:=⟨.UL,h,e,g,f,c⟩) o) λd=>p _ _ _ _ _ _ _ _ ⟨a.T,rfl,rfl,rfl,a.au,bq,a.en,a.tree,a.sg,q,t,s⟩ b.2
  |tree=>exact bJ.of n (De (u:=u) (tb:=i) (tt:=m) (ts:=j) (d0:=⟨.tree,h,e,g,f,c⟩) o) λd=>p _ _ _ _ _ _ _ _ ⟨a.T,rfl,rfl,rfl,a.au,a.co,a.en,a.tree,a.sg,q,t,s⟩ b
  |sig=>exact bJ.of n (Dh (u:=u) (tb:=i) (tt:=m) (ts:=j) (d0:=⟨.sig,h,e,g,f,c⟩) o (b3 a.UY I)) λd=>p _ _ _ _ _ _ _ _ ⟨a.T,rfl,rfl,rfl,a.au,a.co,a.en,a.tree,a.sg,q,t,kI a.UY⟩ b
  |tag=>exact bJ.of n (Di (u:=u) (tb:=i) (tt:=m) (ts:=j) (d0:=⟨.tag,h,e,g,f,c⟩) o (b3 a.xs I)) λd=>p _ _ _ _ _ _ _ _ ⟨a.T,rfl,rfl,rfl,a.au,a.co,a.en,a.tree,a.sg,q,c2 a.xs,s⟩ b
  |rename=>exact bJ.of n (Dj (u:=u) (tb:=i) (tt:=m) (ts:=j) (d0:=⟨.rename,h,e,g,f,c⟩) o (b3 a.xs I)) λd=>p _ _ _ _ _ _ _ _ ⟨a.T,rfl,rfl,rfl,a.au,a.co,a.en,a.tree,a.sg,q,c2 a.xs,s⟩ b
  |encoding=>
   cases z with
   |false=>exact bJ.of (Yw n (a.en.1 rfl)) (Dc (u:=u) (tb:=i) (tt:=m) (ts:=j) (d0:=⟨.encoding,h,e,g,f,c⟩) o) λd=>p _ _ _ _ _ _ _ _ ⟨a.T,rfl,rfl,rfl,a.au,a.co,⟨bq,λω=>⟨c,d 3,sF (a.en.1 rfl)⟩⟩,a.tree,a.sg,q,t,s⟩ b
   |true=>
    obtain⟨Q,T,O⟩:=a.en.2 rfl;exact bJ.of (Yw n O) (Dd (u:=u) (tb:=i) (tt:=m) (ts:=j) (d0:=⟨.encoding,h,e,g,f,c⟩) o) λd=>p _ _ _ _ _ _ _ _ ⟨a.T,rfl,rfl,rfl,a.au,a.co,⟨bq,λω=>⟨Q,T,sF O⟩⟩,a.tree,a.sg,q,t,s⟩ b
  |parent=>
   cases A with
   |false=>exact bJ.of (Yx n a.U0) (Df (u:=u) (tb:=i) (tt:=m) (ts:=j) (d0:=⟨.parent,h,e,g,f,c⟩) o) λd=>p _ _ _ _ _ _ _ _ ((YF (d:=⟨.parent,h,e,g,f,c⟩) (al:=d) a.U0 rfl).symm▸⟨a.T,rfl,rfl,a.U0,a.au,a.co,a.en,a.tree,a.sg,q,t,s⟩) b.2
   |true=>exact bJ.of (Yx n a.U0) (Dg (u:=u) (tb:=i) (tt:=m) (ts:=j) (d0:=⟨.parent,h,e,g,f,c⟩) o (b.1 rfl) (b3 a.ps I)) λd=>p _ _ _ _ _ _ _ _ ((YG (d:=⟨.parent,h,e,g,f,c⟩) (al:=d) a.U0 rfl).symm▸⟨a.T,rfl,rfl,a.U0,a.au,a.co,a.en,a.tree,a.sg,kI a.ps,t,s⟩) b.2
end
section
structure P0 where
 L:Nat
 ks:AL
 ch:Wz
 (Wr lp le ls ep VG VL ga g:Nat)
 (nm qn:Wz)
 (L2 lc tc Va:Nat)
 bs:Wy cl
 F:AL
noncomputable def F3(b:WC)(a:P0):gi:=ot [dx b "chunks" (a.ks 0) a.ch,dx b "signature_header" (a.ks 1) (.bytes (az .sig) a.Wr),dx b "parents" (a.ks 2) (.ref a.lp),dx b "extra" (a.ks 3) (.ref a.le),dx b "tree" (a.ks 4) .none,dx b "author" (a.ks 5) .none,dx b "committer" (a.ks 6) .none,dx b "encoding" (a.ks 7) .none,dx b "message" (a.ks 8) .none,dx b "signatures" (a.ks 9) (.ref a.ls),dx b "in_parents" (a.ks 10) (.bool false)] 11
structure eY where
 line:cl
 n:Nat
 rb:cl
 UP:Wy cl
 np:Nat
 (lp r:cl)
noncomputable def SK(d:AL)(b c:Nat):AL:=λa=>match a with
 |11=>b
 |12=>c
 |_=>d a
noncomputable def HM(b c d e f g h t7 i j:Nat):AL:=λa=>match a with
 |0=>b
 |1=>c
 |2=>d
 |3=>e
 |4=>f
 |5=>g
 |6=>h
 |7=>t7
 |8=>i
 |_=>j
noncomputable def s1(a:P0)(d:cl)(c:eY)(f:Nat)(h j e:Wz)(k:Nat)(i:ui)(b:AL):PS:=
 ⟨⟨a.L,a.ch,.bytes (az .sig) a.Wr,a.lp,a.le,.bytes c.r (b 1),.none,.none,.none,.none,a.ls,true,.bytes (az .tree) (b 0),.bytes c.r (b 1)⟩,SK a.ks (b 2) (b 3),⟨a.ga,a.g,a.nm,a.qn,Qq a.L2 a.lc d (az .tree) c.rb c.np c.lp (cn 4 b),HM a.tc (b 15) (b 16) (b 17) (b 18) (b 19) (b 20) (b 21) (b 22) (b 23),f,h,j,e,k,i⟩,[],λω=>0,a.ep,#[],[],a.VG,[],λω=>0,a.VL⟩
noncomputable def F4(b:WC)(a:P0)(c:Nat)(d:Wz)(f:Nat)(e:ui):Wy aF:=[⟨a.L,F3 b a,true⟩,⟨a.ga,ey a.g a.nm a.qn,false⟩,⟨a.L2,ot [dx b "chunks" a.tc (.ref a.lc)] 1,true⟩,⟨a.lc,cp a.bs a.F a.Va,false⟩,⟨393,ee c,false⟩,⟨c,dq d cZ f e,false⟩,⟨a.lp,cm #[] a.ep,false⟩,⟨a.le,cm #[] a.VG,false⟩,⟨a.ls,cm #[] a.VL,false⟩]
noncomputable def h6(b:uk)(a:Nat):gi:=(b[a]?).getD default
noncomputable def Nv(u:WB)(a:P0)(i:cl)(j:eY)(k:Wy dm)(l:cl)(d:Nat)(e:Wz)(h:Nat)(f:ui):Spec:=
 ⟨HI a.ga a.L,200,some a.L,⟨F4 (Pm u) a d e h f,[(a.g,.fresh (eo a.L2))],λb ω=>let c:=kk (Pm u) (s1 a i j d (kV (b 0)) iF e h f (cn 1 b)) k l (cn 26 b);[h6 c 0,h6 c 1,h6 c 2,cp a.bs a.F a.Va,ee d,h6 c 4,h6 c 5,h6 c 6,h6 c 7],λω ω=>[.finished],nn,nn,[],λb ω=>tS (s1 a i j d (kV (b 0)) iF e h f (cn 1 b)) k (cn 26 b)⟩,λω ω=>.ok .next⟩
noncomputable def SM(a:uk):AL:=λb=>match b with
 |0=>df (aA (a[0]?.getD default) 11)
 |1=>df (aA (a[0]?.getD default) 12)
 |2=>dN (a[0]?.getD default) 11
 |3=>dN (a[0]?.getD default) 12
 |6=>hu (aA (a[2]?.getD default) 6)
 |9=>df (aA (a[2]?.getD default) 2)
 |10=>df (aA (a[2]?.getD default) 8)
 |11=>df (aA (a[2]?.getD default) 1)
 |12=>df (aA (a[2]?.getD default) 3)
 |13=>hu (aA (a[2]?.getD default) 4)
 |14=>df (aA (a[2]?.getD default) 9)
 |c=>dN (a[2]?.getD default) (c-14)
noncomputable def q4:uh:=[8,16,2,7,9,0,0,4,0,0,10,12,14,16,18,20,22,24,26,28,30,32,34,36,38,0]
variable {P:eY} {a:P0}
theorem zm(j:dW a.bs k)(p:dA k 0 P.line P.n)(t:aB P.line #[32]=false)(o:eQ P.line (az .tree) P.rb)(s:er k ((P.n:Int)+1) (az .tree) P.rb P.UP P.np P.lp P.r)(x:ff P.r)(m:gd k l Q P.lp ((P.np:Int)+1) true false false false 0):
  aI u (λu=>Nv u a k P Q l c v d L):=by
 have w:aw u (λu=>[λb e f=>ye a.ga a.g a.nm a.qn (.fresh (eo a.L2)) (fe u a.L2) (zg u a.L2 a.lc a.tc a.Va c v d L a.bs a.F k P.line (az .tree) P.rb P.n P.UP P.np P.lp P.r) 0,λb e f=>rI P.r (tk b 0) (lq "invalid tree sha") (tk b 1),λb e f=>fi u (s1 a k P c (fdOf (e[3]?.getD default)).doc iF v d L (SM e)) Q l]):=⟨λb e f=>pW j p t o s,λb e f=>(by obtain⟨⟨v,z,q⟩,y⟩:=x;exact nj q y),λb e f=>gD Q _ P.lp ((P.np:Int)+1) true false false false 0 ⟨rfl,rfl,rfl,rfl,λω=>rfl,λω=>rfl,⟨λω=>rfl,λi=>(by cases i)⟩,⟨_,_,rfl⟩,⟨_,rfl⟩,Nat.le_refl _,Nat.le_refl _,Nat.le_refl _⟩ m,cg⟩
 exact oT 0x13201224310f0f09f1110111112110121f411f30cf106f600116606016662 [[1,2,3,4,5],[],[5,6,7,4,10,11,12,13]] [8,7,6,5,4,3,2,1,0] (dT q4 λh=>dI (cn 1 (odd (cn 7 (odd h))))) w (G:=[[0],[],[0]]) (J:=[[],[],[.cells []]]) (I:=[0]) (R:=[.UO 0])
noncomputable def zn(b:WC)(a:P0):Wy aF:=[⟨a.L,F3 b a,true⟩,⟨a.ga,ey a.g a.nm a.qn,false⟩,⟨a.L2,ot [dx b "chunks" a.tc (.ref a.lc)] 1,true⟩,⟨a.lc,cp a.bs a.F a.Va,false⟩,⟨393,aT,false⟩,⟨a.lp,cm #[] a.ep,false⟩,⟨a.le,cm #[] a.VG,false⟩,⟨a.ls,cm #[] a.VL,false⟩]
noncomputable def iH(g b c d e f a h:Nat):ui:=[.str (lq "/claim/cut.py") g,.int 283 0,.int 1 0,.int 0 0,.int 0 0,.int 19 0,.ref b,.bool true,.int 181 0,.ref c,.none,.ref d,.ref e,.ref f,.int (a:Nat) 0,.int 283 0,.str (lq "/claim/cut.py") h]
noncomputable def JU(d:P0)(b:cl)(c:eY)(a:AL):PS:=s1 d b c (a 26) (kV (a 0)) iF (jW (a 27)) (a 28) (iH (a 29) (a 30) (a 31) (a 32) (a 33) (a 34) (a 35) (a 36)) (cn 1 a)
noncomputable def Nw(u:WB)(a:P0)(d:cl)(e:eY)(f:Wy dm)(h:cl):Spec:=
 ⟨HI a.ga a.L,200,some a.L,⟨zn (Pm u) a,[(a.g,.fresh (eo a.L2))],λb ω=>let c:=kk (Pm u) (JU a d e b) f h (cn 37 b);[h6 c 0,h6 c 1,h6 c 2,cp a.bs a.F a.Va,ee (b 26),h6 c 5,h6 c 6,h6 c 7],λω ω=>[.finished],λb ω=>let c:=kk (Pm u) (JU a d e b) f h (cn 37 b);[⟨b 26,h6 c 4,false⟩],nn,[],λb ω=>tS (JU a d e b) f (cn 37 b)⟩,λω ω=>.ok .next⟩
noncomputable def rN(a:uk):AL:=λb=>match b with
 |0=>df (ky a 4 2)
 |1=>hu (ky a 4 8)
 |2=>hu (ky a 4 11)
 |3=>hu (ky a 4 13)
 |4=>hu (ky a 4 14)
 |5=>hu (ky a 4 15)
 |6=>(match ky a 4 16 with| .int (.ofNat c) _=>c|_=>0)
 |_=>df (ky a 4 18)
theorem HN(h:dW a.bs k)(m:dA k 0 P.line P.n)(q:aB P.line #[32]=false)(j:eQ P.line (az .tree) P.rb)(p:er k ((P.n:Int)+1) (az .tree) P.rb P.UP P.np P.lp P.r)(t:ff P.r)(i:gd k l Q P.lp ((P.np:Int)+1) true false false false 0):
  aI u (λu=>Nw u a k P Q l):=by
 have s:aw u (λu=>[λc b d=>ye a.ga a.g a.nm a.qn (.fresh (eo a.L2)) (fe u a.L2) (HE u a.L2 a.lc a.tc a.Va a.bs a.F k P.line (az .tree) P.rb P.n P.UP P.np P.lp P.r) 0,λc b d=>rI P.r (tk c 0) (lq "invalid tree sha") (tk c 1),λc b d=>fi u (s1 a k P (hu (fdOf (b[3]?.getD default)).code) (fdOf (b[3]?.getD default)).doc iF (jW (df (ky b 4 0))) (df (ky b 4 1)) (iH (rN b 0) (rN b 1) (rN b 2) (rN b 3) (rN b 4) (rN b 5) (rN b 6) (rN b 7)) (SM b)) Q l]):=⟨λc b d=>HH h m q j p,λc b d=>(by obtain⟨⟨w,x,o⟩,v⟩:=t;exact nj o v),λc b d=>gD Q _ P.lp ((P.np:Int)+1) true false false false 0 ⟨rfl,rfl,rfl,rfl,λω=>rfl,λω=>rfl,⟨λω=>rfl,λf=>(by cases f)⟩,⟨_,_,rfl⟩,⟨_,rfl⟩,Nat.le_refl _,Nat.le_refl _,Nat.le_refl _⟩ i,cg⟩
 exact oT 0x13201225310f0f09f1110111112110121f411f30cf106f700117707017772 [[1,2,3,4],[],[6,7,8,4,5,11,12,13]] [7,6,5,4,3,2,1,0,8] (dT [8,16,2,7,9,0,0,4,0,0,10,12,14,16,18,20,22,24,26,28,30,32,34,36,38,0,6,42,44,46,48,50,52,54,56,58,60] λe=>dI (cn 1 (odd (cn 7 (odd e))))) s (G:=[[0],[],[0]]) (J:=[[],[],[.cells []]]) (I:=[0]) (R:=[.UO 0])
end
variable {V:WA cl}
section
structure Sum where
 ps:Wy cl
 (au co en:WA cl)
 E:Wy dh
 sg:Wy cl
 U0:Bool
noncomputable def mF(S:Sum)(a:dm):Sum:=match a.kind with
 | .parent=>match S.U0 with
  |true=>{S with ps:=S.ps++[a.r]}
  |false=>S
 | .UK=>{S with U0:=false,au:=some a.r}
 | .UL=>{S with U0:=false,co:=some a.r}
 | .encoding=>{S with U0:=false,en:=(match S.en with|none=>some a.r|some b=>some b)}
 | .sig=>{S with U0:=false,sg:=S.sg++[a.r]}
 | .tag=>{S with U0:=false,E:=S.E++[(az .tag,a.r)]}
 | .rename=>{S with U0:=false,E:=S.E++[(az .rename,a.r)]}
 | .tree=>{S with U0:=false}
noncomputable def rO(S:Sum):Wy dm->Sum
 |[]=>S
 |d::a=>rO (mF S d) a
noncomputable def tU(a:Wz):WA cl->Prop
 |none=>a= .none
 |some b=>∃c,a= .bytes b c
structure Nx(s:PS)(S:Sum):Prop where
 ps:s.ps=S.ps
 au:tU s.x.UK S.au
 co:tU s.x.UL S.co
 en:tU s.x.encoding S.en
 E:s.E=S.E
 sg:s.sg=S.sg
 U0:s.x.U0=S.U0
theorem zo{a:PS}{S:Sum}{b:dm}(l:Nx a S):Nx (dn a b y) (mF S b):=by
 obtain⟨d,g,h,c,e,f,k⟩:=l;unfold dn mF;cases o:b.kind with
 |parent=>
  cases j:a.x.U0 with
  |true=>
   have i:S.U0=true:=by rw[<-k];exact j
   simp only[i];exact⟨by refine(?_:a.ps++[b.r]=_);rw[d],g,h,c,e,f,j⟩
  |false=>
   have i:S.U0=false:=by rw[<-k];exact j
   simp only[i];exact⟨d,g,h,c,e,f,j.trans i.symm⟩
 |UK=>exact⟨d,⟨_,rfl⟩,h,c,e,f,rfl⟩
 |UL=>exact⟨d,g,⟨_,rfl⟩,c,e,f,rfl⟩
 |encoding=>
  refine⟨d,g,h, ?_,e,f,rfl⟩;cases i:S.en with
  |none=>
   rw[i]at c;have c:a.x.encoding= .none:=c;refine(?_:tU (match nu a.x.encoding with|true=>Value.bytes b.r (y 3)|false=>a.x.encoding) _)
   rw[c];exact⟨_,rfl⟩
  |some n=>
   rw[i]at c;obtain⟨m,c⟩:=c;refine(?_:tU (match nu a.x.encoding with|true=>Value.bytes b.r (y 3)|false=>a.x.encoding) _)
   rw[c];exact⟨m,rfl⟩
 |sig=>exact⟨d,g,h,c,e,by refine(?_:a.sg++[b.r]=_);rw[f],rfl⟩
 |tag=>exact⟨d,g,h,c,by refine(?_:a.E++_=_);rw[e],f,rfl⟩
 |rename=>exact⟨d,g,h,c,by refine(?_:a.E++_=_);rw[e],f,rfl⟩
 |tree=>exact⟨d,g,h,c,e,f,rfl⟩
theorem pX:∀(a:Wy dm) (b:PS) (S:Sum) (c:AL),Nx b S->Nx (eX b a c) (rO S a)
 |[],b,S,c,e=>e
 |d::a,b,S,c,e=>pX a _ _ _ (zo e)
structure Ny(s s':PS):Prop where
 L:s'.x.L=s.x.L
 ch:s'.x.ch=s.x.ch
 sg:s'.x.sg=s.x.sg
 lp:s'.x.lp=s.x.lp
 le:s'.x.le=s.x.le
 ls:s'.x.ls=s.x.ls
 tree:s'.x.tree=s.x.tree
 ks:s'.ks=s.ks
 a:s'.y.a=s.y.a
 tq:s'.y.tq=s.y.tq
 l:s'.y.l=s.y.l
variable {al:AL}
theorem xo{s:PS}{d:dm}:Ny s (dn s d al):=by
 unfold dn;cases b:d.kind with
 |parent=>cases a:s.x.U0<;>exact⟨rfl,rfl,rfl,rfl,rfl,rfl,rfl,rfl,rfl,rfl,rfl⟩
 |_=>exact⟨rfl,rfl,rfl,rfl,rfl,rfl,rfl,rfl,rfl,rfl,rfl⟩
theorem kX:∀(g:Wy dm) (f:PS) (e:AL),Ny f (eX f g e)
 |[],f,e=>⟨rfl,rfl,rfl,rfl,rfl,rfl,rfl,rfl,rfl,rfl,rfl⟩
 |d::g,f,e=>by
  have b:=xo (s:=f) (d:=d) (al:=e);have c:=kX g (dn f d e) (cn 7 e);exact⟨c.L.trans b.L,c.ch.trans b.ch,c.sg.trans b.sg,c.lp.trans b.lp,c.le.trans b.le,c.ls.trans b.ls,c.tree.trans b.tree,c.ks.trans b.ks,c.a.trans b.a,c.tq.trans b.tq,c.l.trans b.l⟩
noncomputable def rP:Sum:=⟨[],none,none,none,[],[],true⟩
variable {l:ui} {tq cc:Nat} {doc pm a:Wz} {d:eY} {T:cl} {p:P0}
theorem zp:Nx (s1 p T d cc doc pm a tq l al) rP:=⟨rfl,rfl,rfl,rfl,rfl,rfl,rfl⟩
noncomputable def iX(b:WA cl)(c:Nat):Wz:=match b with
 |none=>.none
 |some a=>.bytes a c
theorem tU.en(a:tU v V):∃b,v=iX V b:=by
 cases V with
 |none=>exact⟨0,a⟩
 |some c=>exact a
noncomputable def rQ(f:WC)(b:P0)(h d e:cl)(g:WA cl)(c:cl)(a:AL):gi:=tQ f ⟨b.L,b.ch,.bytes (az .sig) b.Wr,b.lp,b.le,.bytes h (a 4),.bytes d (a 1),.bytes e (a 2),iX g (a 3),.bytes c (a 0),b.ls,false,.none,.bytes c (a 0)⟩ (SK b.ks (a 5) (a 6))
theorem HO{P:WC}{ds:Wy dm}{al2:AL}{msg:cl}{t:Nat}(C:(rO rP ds).au=some k)(D:(rO rP ds).co=some m):∃e f g,∀z:AL,
  tQ P {(eX (s1 p T d cc doc pm a tq l al) ds al2).x with field:= .none,value:= .bytes msg t,message:= .bytes msg t,U0:=false} (eX (s1 p T d cc doc pm a tq l al) ds al2).ks=rQ P p d.r k m (rO rP ds).en msg (cons t (cons e (cons f (cons g (cons (al 1) (cons (al 2) (cons (al 3) z))))))):=by
 have c:=pX ds _ _ al2 (zp (p:=p) (T:=T) (d:=d) (cc:=cc) (doc:=doc) (pm:=pm) (a:=a) (tq:=tq) (l:=l) (al:=al));have b:=kX ds (s1 p T d cc doc pm a tq l al) al2;obtain⟨e,h⟩:∃t,(eX (s1 p T d cc doc pm a tq l al) ds al2).x.UK= .bytes k t:=by have:=c.au;rw[C]at this;exact this
 obtain⟨f,i⟩:∃t,(eX (s1 p T d cc doc pm a tq l al) ds al2).x.UL= .bytes m t:=by have:=c.co;rw[D]at this;exact this
 obtain⟨g,j⟩:=c.en.en;refine⟨e,f,g,λz=> ?_⟩
 unfold rQ;have n:=b.L;have o:=b.ch;have q:=b.sg;have s:=b.lp;have v:=b.le;have w:=b.ls;have y:=b.tree;have A:=b.ks;rw[A];generalize (eX (s1 p T d cc doc pm a tq l al) ds al2).x=X at*;obtain⟨G,I,Q,N,M,Y,H,J,L,message,O,U0,field,value⟩:=X;simp only at n o q s v w y h i j;subst n o q s v w y h i j;rfl
end
section
theorem SN{e f g:Type}(h:e->f->g){a b:e}{c d:f}(i:a=b)(j:c=d):h a c=h b d:=by rw[i,j]
noncomputable def zq(a b c:Nat):AL:=λd=>match d with
 |0=>a
 |1=>b
 |_=>c
noncomputable def ei(c a b:Nat):ug:=match c with
 |0=> #[]
 |1=> #[.ref a]
 |_=> #[.ref a,.ref b]
structure xp(xs:ug)(E:Wy dh):Prop where
 size:xs.size=E.length
 refs:∀v∈xs.toList,∃a,v= .ref a
theorem Dk{a:PS}{b:dm}(d:xp a.xs a.E):xp (dn a b y).xs (dn a b y).E:=by
 have e:xp (a.xs++ #[.ref (y 6)]) (a.E++[(az b.kind,b.r)]):=⟨by rw[Array.size_append,List.length_append,d.size];rfl,λg c=>by
  rw[Array.toList_append,List.mem_append]at c;rcases c with c|c
  ·exact d.refs g c
  ·simp at c;exact⟨_,c⟩⟩
 unfold dn;cases f:b.kind with
 |parent=>cases h:a.x.U0<;>exact d
 |tag=>rw[f]at e;exact e
 |rename=>rw[f]at e;exact e
 |_=>exact d
theorem zr:∀(c:Wy dm) (a:PS) (b:AL),xp a.xs a.E->xp (eX a c b).xs (eX a c b).E
 |[],a,b,e=>e
 |d::c,a,b,e=>zr c _ _ (Dk e)
theorem Dl{E:Wy dh}(g:xp H E)(h:E.length<=2):∃c d,H=ei E.length c d:=by
 obtain⟨a,b⟩:=g;obtain⟨e⟩:=H
 match e,a,b with
 |[],a,b=>exact⟨0,0,by rw[<-a];rfl⟩
 |[x],a,b=>
  obtain⟨c,rfl⟩:=b x (.head _);exact⟨c,0,by rw[<-a];rfl⟩
 |[x,f],a,b=>
  obtain⟨c,rfl⟩:=b x (.head _);obtain⟨d,rfl⟩:=b f (.tail _ (.head _));exact⟨c,d,by rw[<-a];rfl⟩
 |x::f::i::e,a,b=>simp at a;lia
theorem Rr(b:A.length<=3):d3 A y=d3 A (zq (y 0) (y 1) (y 2)):=bi _ _ _ λa c=>by
 match a with
 |0=>rfl
 |1=>rfl
 |2=>rfl
 |n+3=>lia
theorem Rs(b:A.length<=1):d3 A y=d3 A (λω=>y 0):=bi _ _ _ λa c=>by
 match a with
 |0=>rfl
 |n+1=>lia
structure kY(ds:Wy dm)(S:Sum)(A C:cl):Prop where
 sum:rO rP ds=S
 au:S.au=some A
 co:S.co=some C
 ps:S.ps.length<=3
 E:S.E.length<=2
 sg:S.sg.length<=1
variable {a:Wz}
theorem zs{P:WC}{p:P0}{T:cl}{d:eY}{cc:Nat}{doc pm:Wz}{tq:Nat}{l:ui}{al al2:AL}{msg:cl}{t:Nat}{S:Sum}(g:kY Q S m n):∃c:AL->AL,∀b:AL,
  (c b 0=t/\cn 16 (c b)=b)/\tQ P {(eX (s1 p T d cc doc pm a tq l al) Q al2).x with field:= .none,value:= .bytes msg t,message:= .bytes msg t,U0:=false} (eX (s1 p T d cc doc pm a tq l al) Q al2).ks=rQ P p d.r m n S.en msg (c b)/\
  (let e:=eX (s1 p T d cc doc pm a tq l al) Q al2;cp e.ps e.F e.ep=cp S.ps (zq (c b 7) (c b 8) (c b 9)) (c b 10)/\e.xs=ei S.E.length (c b 11) (c b 12)/\e.VG=c b 13/\cp e.sg e.G e.VL=cp S.sg (λω=>c b 14) (c b 15)/\e.E=S.E):=by
 obtain⟨h,i,j,k,o,q⟩:=g;subst h;have f:=pX Q _ _ al2 (zp (p:=p) (T:=T) (d:=d) (cc:=cc) (doc:=doc) (pm:=pm) (a:=a) (tq:=tq) (l:=l) (al:=al));obtain⟨y,z,A,s⟩:=HO (P:=P) (p:=p) (T:=T) (d:=d) (ds:=Q) (cc:=cc) (doc:=doc) (pm:=pm) (a:=a) (tq:=tq) (l:=l) (al:=al) (al2:=al2) (msg:=msg) (t:=t) i j;obtain⟨C,D,w⟩:=Dl (zr Q (s1 p T d cc doc pm a tq l al) al2 ⟨rfl,λH v=>by cases v⟩) (by rw[f.E];exact o)
 refine⟨λb=>cons t (cons y (cons z (cons A (cons (al 1) (cons (al 2) (cons (al 3) (cons ((eX (s1 p T d cc doc pm a tq l al) Q al2).F 0) (cons ((eX (s1 p T d cc doc pm a tq l al) Q al2).F 1) (cons ((eX (s1 p T d cc doc pm a tq l al) Q al2).F 2) (cons (eX (s1 p T d cc doc pm a tq l al) Q al2).ep (cons C (cons D (cons (eX (s1 p T d cc doc pm a tq l al) Q al2).VG (cons ((eX (s1 p T d cc doc pm a tq l al) Q al2).G 0) (cons (eX (s1 p T d cc doc pm a tq l al) Q al2).VL b))))))))))))))),λb=>⟨⟨rfl,rfl⟩,s _, ?_, ?_,rfl, ?_,f.E⟩⟩
 ·refine(?_:cm _ _=cm _ _);rw[Rr (by rw[f.ps];exact k),f.ps];rfl
 ·rw[w,f.E];rfl
 ·refine(?_:cm _ _=cm _ _);rw[Rs (by rw[f.sg];exact q),f.sg];rfl
noncomputable def tV(u:WB)(b:P0)(m:cl)(h:eY)(n:Wy dm)(j:cl)(d:Nat)(c:Wz)(f:Nat)(e:ui)(k l:cl)(S:Sum):Spec:=
 ⟨HI b.ga b.L,200,some b.L,⟨F4 (Pm u) b d c f e,[(b.g,.fresh (eo b.L2))],λa ω=>let i:=kk (Pm u) (s1 b m h d (kV (cn 16 a 0)) iF c f e (cn 1 (cn 16 a))) n j (cn 26 (cn 16 a));[rQ (Pm u) b h.r k l S.en j a,h6 i 1,h6 i 2,cp b.bs b.F b.Va,ee d,dq c cZ f e,cp S.ps (zq (a 7) (a 8) (a 9)) (a 10),cm (ei S.E.length (a 11) (a 12)) (a 13),cp S.sg (λω=>a 14) (a 15)],λω ω=>[.finished],nn,nn,[],λa ω=>[⟨ei S.E.length (a 11) (a 12),S.E⟩]⟩,λω ω=>.ok .next⟩
variable {b:eY} {c:P0}
theorem vE{S:Sum}(v:OK u (Nv u c k b Q o d a e L))(w:kY Q S m n):OK u (tV u c k b Q o d a e L m n S):=by
 refine v.alt rfl rfl rfl rfl rfl rfl λf y=> ?_
 have g:=kX Q (s1 c k b d (kV (f 0)) iF a e L (cn 1 f)) (cn 26 f);obtain⟨i,x⟩:=zs (P:=(Pm u)) (p:=c) (T:=k) (d:=b) (cc:=d) (doc:=kV (f 0)) (pm:=iF) (a:=a) (tq:=e) (l:=L) (al:=cn 1 f) (al2:=cn 26 f) (msg:=o) (t:=bc Q (cn 26 f) 0) w;obtain⟨⟨z,s⟩,j,l,h,p,q,r⟩:=x f;refine⟨i f,y,rfl, ?_,rfl,rfl,rfl, ?_⟩
 ·refine(?_:[_,_,_,_,_,_,_,_,_]=[_,_,_,_,_,_,_,_,_]);rw[s];refine cY j (cY rfl (cY rfl (cY rfl (cY rfl (cY ?_ (cY l (cY ?_ (cY q rfl))))))))
  ·refine(?_:dq _ _ _ _=_);rw[g.a,g.tq,g.l];rfl
  ·refine(?_:cm _ _=cm _ _);rw[h,p]
 ·refine(?_:[(⟨_,_⟩:jz)]=[⟨_,_⟩]);rw[h,r]
noncomputable def xq(u:WB)(b:P0)(i:cl)(c:eY)(j:Wy dm)(e:cl)(f h:cl)(S:Sum):Spec:=
 ⟨HI b.ga b.L,200,some b.L,⟨zn (Pm u) b,[(b.g,.fresh (eo b.L2))],λa ω=>let d:=kk (Pm u) (JU b i c (cn 27 a)) j e (cn 37 (cn 27 a));[rQ (Pm u) b c.r f h S.en e a,h6 d 1,h6 d 2,cp b.bs b.F b.Va,ee (a 16),cp S.ps (zq (a 7) (a 8) (a 9)) (a 10),cm (ei S.E.length (a 11) (a 12)) (a 13),cp S.sg (λω=>a 14) (a 15)],λω ω=>[.finished],λa ω=>[⟨a 16,dq (jW (a 17)) cZ (a 18) (iH (a 19) (a 20) (a 21) (a 22) (a 23) (a 24) (a 25) (a 26)),false⟩],nn,[],λa ω=>[⟨ei S.E.length (a 11) (a 12),S.E⟩]⟩,λω ω=>.ok .next⟩
theorem Dm{S:Sum}(y:OK u (Nw u c k b Q o))(z:kY Q S m n):OK u (xq u c k b Q o m n S):=by
 refine y.alt rfl rfl rfl rfl rfl rfl λd C=> ?_
 have h:=kX Q (JU c k b d) (cn 37 d);obtain⟨g,A⟩:=zs (P:=(Pm u)) (p:=c) (T:=k) (d:=b) (cc:=d 26) (doc:=kV (d 0)) (pm:=iF) (a:=jW (d 27)) (tq:=d 28) (l:=iH (d 29) (d 30) (d 31) (d 32) (d 33) (d 34) (d 35) (d 36)) (al:=cn 1 d) (al2:=cn 37 d) (msg:=o) (t:=bc Q (cn 37 d) 0) z;obtain⟨⟨D,x⟩,q,r,i,s,v,w⟩:=A (cons (d 26) (cons (d 27) (cons (d 28) (cons (d 29) (cons (d 30) (cons (d 31) (cons (d 32) (cons (d 33) (cons (d 34) (cons (d 35) (cons (d 36) d)))))))))));have e (f:Nat):g (cons (d 26) (cons (d 27) (cons (d 28) (cons (d 29) (cons (d 30) (cons (d 31) (cons (d 32) (cons (d 33) (cons (d 34) (cons (d 35) (cons (d 36) d))))))))))) (16+f)=cons (d 26) (cons (d 27) (cons (d 28) (cons (d 29) (cons (d 30) (cons (d 31) (cons (d 32) (cons (d 33) (cons (d 34) (cons (d 35) (cons (d 36) d)))))))))) f:=by
  rw[Nat.add_comm];exact congrFun x f
 have p:cn 27 (g (cons (d 26) (cons (d 27) (cons (d 28) (cons (d 29) (cons (d 30) (cons (d 31) (cons (d 32) (cons (d 33) (cons (d 34) (cons (d 35) (cons (d 36) d))))))))))))=d:=by
  funext f;have:=e (f+11);rw[show 16+(f+11)=f+27 by lia]at this;exact this
 refine⟨g (cons (d 26) (cons (d 27) (cons (d 28) (cons (d 29) (cons (d 30) (cons (d 31) (cons (d 32) (cons (d 33) (cons (d 34) (cons (d 35) (cons (d 36) d))))))))))),C,rfl, ?_,rfl, ?_,rfl, ?_⟩
 ·refine(?_:[_,_,_,_,_,_,_,_]=[_,_,_,_,_,_,_,_]);rw[p];refine cY q (cY rfl (cY rfl (cY rfl (cY ?_ (cY r (cY ?_ (cY v rfl)))))))
  ·rw[e 0];rfl
  ·refine(?_:cm _ _=cm _ _);exact(SN cm i s)
 ·refine(?_:[(⟨_,_,_⟩:aF)]=[⟨_,_,_⟩]);have j:h6 (kk (Pm u) (JU c k b d) Q o (cn 37 d)) 4=dq (jW (d 27)) cZ (d 28) (iH (d 29) (d 30) (d 31) (d 32) (d 33) (d 34) (d 35) (d 36)):=by
   refine(?_:dq _ _ _ _=_);rw[h.a,h.tq,h.l];rfl
  rw[j,e 0,e 1,e 2,e 3,e 4,e 5,e 6,e 7,e 8,e 9,e 10];rfl
 ·refine(?_:[(⟨_,_⟩:jz)]=[⟨_,_⟩]);exact cY (SN jz.mk i w) rfl
end
section
noncomputable def F5(a:Nat):Wz:= .str (lq "_parse_message") a
noncomputable def qH(c:WC)(b:Nat):Spec:=
 ⟨ul 398 [.ref b],12,none,⟨[],[],nn,nn,λa ω=>[⟨a 0,ey (a 1) (F5 (a 3)) (F5 (a 4)),false⟩,⟨a 2,ot [dx c "chunks" (a 5) (.ref b)] 1,true⟩],λa ω=>[(a 1,.fresh (eo (a 2)))],[],nn⟩,λa ω=>uj (.ref (a 0))⟩
theorem gv:aI u (λu=>qH (Pm u) c):=
 oU 0x1000111 [] [1,0] (dT [5,2,0,3,4,1] λa=>dI a) trivial (Y:=λω=>[]) (I:=[0])
structure yf where
 person:cl
 (time zone:WA Int)
 neg:Bool
noncomputable def gw(b:WA Int)(c:Nat):Wz:=match b with
 |none=>.none
 |some a=>.int a c
noncomputable def Dn(a:yf)(c d b:Nat):gi:=eE #[.bytes a.person c,gw a.time d,.ref b]
noncomputable def Do(a:yf)(b:Nat):gi:=eE #[gw a.zone b,.bool a.neg]
noncomputable def Nz(c:cl)(d:Nat)(b:yf):Spec:=⟨ul 634 [.bytes c d],60,none,UM [] (λω=>[]) (λa=>[(a 0,Dn b (a 2) (a 3) (a 1)),(a 1,Do b (a 4))]),λa ω=>uj (.ref (a 0))⟩
noncomputable def jN(a:cl)(c:yf):U:=λb e d=>Nz a (tk b 0) c
noncomputable def h7(u:WB)(a:cl)(b:yf):Prop:=∀c,OK u (Nz a c b)
theorem pY{rest:cl}{n:Nat}{j:Fin 6}{z:Fin 7}(a:tL k l rest n j z):h7 u k ⟨l,some (pS j).2,some (iR z).2.1,(iR z).2.2⟩:=λb=>Ht a
noncomputable def vF:WA cl->Wy cl
 |none=>[]
 |some a=>[a]
noncomputable def be:Code->Nat
 | .forLoop _ (.ref a) _ _ _=>a
 |_=>0
noncomputable def Dp:Code->Nat
 | .forLoop _ _ _ _ a=>a.frame.getD 0
 |_=>0
noncomputable def Rt(b c e f g h i t7 j k d:Nat):AL:=λa=>match a with
 |0=>b
 |1=>c
 |2=>e
 |3=>f
 |4=>g
 |5=>h
 |6=>i
 |7=>t7
 |8=>j
 |9=>k
 |_=>d
noncomputable def pZ(c:Code)(d:uk)(b:AL)(e h g i:Nat)(f:cl):P0:=
 let a:=d[0]?.getD default
 ⟨Dp c,Rt (dN a 0) (dN a 1) (dN a 2) (dN a 3) (dN a 4) (dN a 5) (dN a 6) (dN a 7) (dN a 8) (dN a 9) (dN a 10),aA a 0,df (aA a 1),hu (aA a 2),hu (aA a 3),hu (aA a 9),eJ d e,eJ d (e+1),eJ d (e+2),be c,b 1,F5 (b 3),F5 (b 4),b 2,h,b 5,g,[f],λω=>i⟩
structure Rd where
 T:cl
 d:eY
 ds:Wy dm
 (msg A C:cl)
 ps:Wy cl
 en:WA cl
 E:Wy dh
 (fA fC:yf)
noncomputable def h8(a:Rd)(b:WA cl):Sum:=⟨a.ps,some a.A,some a.C,a.en,a.E,vF b,false⟩
noncomputable def NA(b:Rd)(c:WA cl)(a:AL):gi:=eE #[.bytes b.d.r (a 1),.ref (a 2),.ref (a 3),.ref (a 4),iX b.en (a 5),iX c (a 6),.bytes b.msg (a 7),.ref (a 8)]
noncomputable def F6(b:Rd)(c:WA cl)(a:AL):Wy (Nat×gi):=[(a 0,NA b c a),(a 2,cp b.ps (zq (a 9) (a 10) (a 11)) (a 12)),(a 8,cm (ei b.E.length (a 13) (a 14)) (a 15)),(a 3,Dn b.fA (a 17) (a 18) (a 16)),(a 16,Do b.fA (a 19)),(a 4,Dn b.fC (a 21) (a 22) (a 20)),(a 20,Do b.fC (a 23))]
noncomputable def xr(b:Rd)(j:WA cl)(g e h c:Nat)(d:Wz)(i:Nat)(f:ui):Spec:=
 ⟨ul 649 [.ref g],215,none,⟨pl [(g,cp [b.T] (λω=>h) e),(393,ee c),(c,dq d cZ i f)],[],λω ω=>[cp [b.T] (λω=>h) e,ee c,dq d cZ i f],nn,λa ω=>pl (F6 b j a),nn,[],λa ω=>[⟨ei b.E.length (a 13) (a 14),b.E⟩]⟩,λa ω=>uj (.ref (a 0))⟩
structure d6(u:WB)(x:Rd)(sg:WA cl):Prop where
 ch:dW [x.T] x.T
 line:dA x.T 0 x.d.line x.d.n
 sp:aB x.d.line #[32]=false
 Vr:eQ x.d.line (az .tree) x.d.rb
 row:er x.T ((x.d.n:Int)+1) (az .tree) x.d.rb x.d.UP x.d.np x.d.lp x.d.r
 hex:ff x.d.r
 VP:gd x.T x.msg x.ds x.d.lp ((x.d.np:Int)+1) true false false false 0
 sum:kY x.ds (h8 x sg) x.A x.C
 iA:h7 u x.A x.fA
 iC:h7 u x.C x.fC
 UY:∀s,sg=some s->eI #[10] [s]=s/\s.size<=1000000
variable {b:P0} {a:Rd}
theorem d6.hk(c:d6 u a V)(e:dW b.bs a.T):OK u (tV u b a.T a.d a.ds a.msg g v h L a.A a.C (h8 a V)):=vE (zm e c.line c.sp c.Vr c.row c.hex c.VP) c.sum
theorem d6.gk(c:d6 u a V)(e:dW b.bs a.T):OK u (xq u b a.T a.d a.ds a.msg a.A a.C (h8 a V)):=Dm (HN e c.line c.sp c.Vr c.row c.hex c.VP) c.sum
theorem kZ{a:Wy AL->AL}(e:eI #[10] [k]=k)(f:k.size<=1000000):∀b d c,OK u (hf #[10] [k] k a b d c):=λb d c=>bh (by simp) e (by lia) (by simp;lia)
noncomputable def HP(c:Rd)(b:WA cl)(a:AL):Wy (Nat×gi):=F6 c b a++[(a 24,dq (jW (a 25)) cZ (a 26) (iH (a 27) (a 28) (a 29) (a 30) (a 31) (a 32) (a 33) (a 34)))]
noncomputable def xt(b:Rd)(f:WA cl)(d c e:Nat):Spec:=
 ⟨ul 649 [.ref d],215,none,⟨pl [(d,cp [b.T] (λω=>e) c),(393,aT)],[],λa ω=>[cp [b.T] (λω=>e) c,ee (a 24)],nn,λa ω=>pl (HP b f a),nn,[],λa ω=>[⟨ei b.E.length (a 13) (a 14),b.E⟩]⟩,λa ω=>uj (.ref (a 0))⟩
noncomputable def SO:Nat:=0x1000422f0220700f30444404011101111100888880801a0a01cc9901901919cc0
noncomputable def Q4:uh:=[75,33,4,31,35,29,0,17,6,45,49,53,57,61,65,69,39,47,55,63,51,67,83,99]
theorem zt{c e f g:Nat}{v:Wz}{h:Nat}{L:ui}(k:d6 u ({a with en:=none}:Rd) none):aI u (λω=>xr ({a with en:=none}:Rd) none c e f g v h L):=by
 have l:aw u (λu=>[λb j i=>qH (Pm u) c,λb j i=>tV u (pZ b j (cH i 0) 6 c e f a.T) a.T a.d a.ds a.msg g v h L a.A a.C (h8 ({a with en:=none}:Rd) none),jN a.A a.fA,jN a.C a.fC]):=⟨λb j i=>gv,λb j i=>k.hk k.ch,λb j i=>k.iA _,λb j i=>k.iC _,cg⟩
 exact oT SO [[],[5,0,1,6,7,8,4,3,2],[],[]] [2,1,0,15,4,5,12,11,14,13] (aE Q4) l (G:=[[],[0],[],[]]) (R:=[.UO 0])
noncomputable def SP:Nat:=0x1000422f0220700f30444404011101111100888880801a0a01cc9901901919c012cc0
noncomputable def Q5:uh:=[107,33,4,31,35,29,91,17,6,45,49,53,57,61,65,69,39,47,55,63,51,67,83,99]
theorem zu{c e f g:Nat}{v:Wz}{h:Nat}{L:ui}(j:d6 u ({a with en:=none}:Rd) (some k)):aI u (λω=>xr ({a with en:=none}:Rd) (some k) c e f g v h L):=by
 have m:aw u (λu=>[λi l b=>qH (Pm u) c,λi l b=>tV u (pZ i l (cH b 0) 6 c e f a.T) a.T a.d a.ds a.msg g v h L a.A a.C (h8 ({a with en:=none}:Rd) (some k)),jN a.A a.fA,jN a.C a.fC,hf #[10] [k] k λb=>λω=>cH b 2 14]):=⟨λi l b=>gv,λi l b=>j.hk j.ch,λi l b=>j.iA _,λi l b=>j.iC _,kZ (j.UY _ rfl).1 (j.UY _ rfl).2,cg⟩
 exact oT SP [[],[5,0,1,6,7,8,4,3,2],[],[],[8]] [2,1,0,15,4,5,12,11,14,13] (aE Q5) m (G:=[[],[0],[],[],[]]) (R:=[.UO 0])
theorem zv{c e f g:Nat}{v:Wz}{h:Nat}{L:ui}(k:d6 u ({a with en:=some l}:Rd) none):aI u (λω=>xr ({a with en:=some l}:Rd) none c e f g v h L):=by
 have m:aw u (λu=>[λb j i=>qH (Pm u) c,λb j i=>tV u (pZ b j (cH i 0) 6 c e f a.T) a.T a.d a.ds a.msg g v h L a.A a.C (h8 ({a with en:=some l}:Rd) none),jN a.A a.fA,jN a.C a.fC]):=⟨λb j i=>gv,λb j i=>k.hk k.ch,λb j i=>k.iA _,λb j i=>k.iC _,cg⟩
 exact oT SO [[],[5,0,1,6,7,8,4,3,2],[],[]] [2,1,0,15,4,5,12,11,14,13] (aE Q4) m (G:=[[],[0],[],[]]) (R:=[.UO 0])
theorem zw{c e f g:Nat}{v:Wz}{h:Nat}{L:ui}(j:d6 u ({a with en:=some l}:Rd) (some k)):aI u (λω=>xr ({a with en:=some l}:Rd) (some k) c e f g v h L):=by
 have n:aw u (λu=>[λi m b=>qH (Pm u) c,λi m b=>tV u (pZ i m (cH b 0) 6 c e f a.T) a.T a.d a.ds a.msg g v h L a.A a.C (h8 ({a with en:=some l}:Rd) (some k)),jN a.A a.fA,jN a.C a.fC,hf #[10] [k] k λb=>λω=>cH b 2 14]):=⟨λi m b=>gv,λi m b=>j.hk j.ch,λi m b=>j.iA _,λi m b=>j.iC _,kZ (j.UY _ rfl).1 (j.UY _ rfl).2,cg⟩
 exact oT SP [[],[5,0,1,6,7,8,4,3,2],[],[],[8]] [2,1,0,15,4,5,12,11,14,13] (aE Q5) n (G:=[[],[0],[],[],[]]) (R:=[.UO 0])
noncomputable def SQ:Nat:=0x1000422f0220700f30444404011101111100999990901b0b010dd0ddaa01a01a1a0dd0dd0
noncomputable def Q6:uh:=[75,33,4,31,35,29,0,17,6,45,49,53,57,61,65,69,39,47,55,63,51,67,83,99,81,85,89,93,97,101,105,109,113,117,121]
theorem zx{c e f:Nat}(i:d6 u ({a with en:=none}:Rd) none):aI u (λω=>xt ({a with en:=none}:Rd) none c e f):=by
 have j:aw u (λu=>[λb h g=>qH (Pm u) c,λb h g=>xq u (pZ b h (cH g 0) 5 c e f a.T) a.T a.d a.ds a.msg a.A a.C (h8 ({a with en:=none}:Rd) none),jN a.A a.fA,jN a.C a.fC]):=⟨λb h g=>gv,λb h g=>i.gk i.ch,λb h g=>i.iA _,λb h g=>i.iC _,cg⟩
 exact oT SQ [[],[5,0,1,6,7,4,3,2],[],[]] [1,0,15,3,4,12,11,14,13,8] (aE Q6) j (G:=[[],[0],[],[]]) (R:=[.UO 0])
noncomputable def SR:Nat:=0x1000422f0220700f30444404011101111100999990901b0b010dd0ddaa01a01a1a0dd0120dd0dd0
noncomputable def Q7:uh:=[107,33,4,31,35,29,91,17,6,45,49,53,57,61,65,69,39,47,55,63,51,67,83,99,81,85,89,93,97,101,105,109,113,117,121]
theorem zy{c e f:Nat}(h:d6 u ({a with en:=none}:Rd) (some k)):aI u (λω=>xt ({a with en:=none}:Rd) (some k) c e f):=by
 have j:aw u (λu=>[λg i b=>qH (Pm u) c,λg i b=>xq u (pZ g i (cH b 0) 5 c e f a.T) a.T a.d a.ds a.msg a.A a.C (h8 ({a with en:=none}:Rd) (some k)),jN a.A a.fA,jN a.C a.fC,hf #[10] [k] k λb=>λω=>cH b 2 14]):=⟨λg i b=>gv,λg i b=>h.gk h.ch,λg i b=>h.iA _,λg i b=>h.iC _,kZ (h.UY _ rfl).1 (h.UY _ rfl).2,cg⟩
 exact oT SR [[],[5,0,1,6,7,4,3,2],[],[],[9]] [1,0,15,3,4,12,11,14,13,8] (aE Q7) j (G:=[[],[0],[],[],[]]) (R:=[.UO 0])
theorem Ww{c e f:Nat}(i:d6 u ({a with en:=some l}:Rd) none):aI u (λω=>xt ({a with en:=some l}:Rd) none c e f):=by
 have j:aw u (λu=>[λb h g=>qH (Pm u) c,λb h g=>xq u (pZ b h (cH g 0) 5 c e f a.T) a.T a.d a.ds a.msg a.A a.C (h8 ({a with en:=some l}:Rd) none),jN a.A a.fA,jN a.C a.fC]):=⟨λb h g=>gv,λb h g=>i.gk i.ch,λb h g=>i.iA _,λb h g=>i.iC _,cg⟩
 exact oT SQ [[],[5,0,1,6,7,4,3,2],[],[]] [1,0,15,3,4,12,11,14,13,8] (aE Q6) j (G:=[[],[0],[],[]]) (R:=[.UO 0])
theorem zC{c e f:Nat}(h:d6 u ({a with en:=some l}:Rd) (some k)):aI u (λω=>xt ({a with en:=some l}:Rd) (some k) c e f):=by
 have j:aw u (λu=>[λg i b=>qH (Pm u) c,λg i b=>xq u (pZ g i (cH b 0) 5 c e f a.T) a.T a.d a.ds a.msg a.A a.C (h8 ({a with en:=some l}:Rd) (some k)),jN a.A a.fA,jN a.C a.fC,hf #[10] [k] k λb=>λω=>cH b 2 14]):=⟨λg i b=>gv,λg i b=>h.gk h.ch,λg i b=>h.iA _,λg i b=>h.iC _,kZ (h.UY _ rfl).1 (h.UY _ rfl).2,cg⟩
 exact oT SR [[],[5,0,1,6,7,4,3,2],[],[],[9]] [1,0,15,3,4,12,11,14,13,8] (aE Q7) j (G:=[[],[0],[],[],[]]) (R:=[.UO 0])
theorem mG(b:a.en=V):{a with en:=V}=a:=by subst b;rfl
theorem HQ(b:d6 u a V):OK u (xr a V c e f g v h L):=by
 cases d:a.en with
 |none=>
  rw[<-mG d]at b|-;cases V with
  |none=>exact zt b
  |some i=>exact zu b
 |some j=>
  rw[<-mG d]at b|-;cases V with
  |none=>exact zv b
  |some i=>exact zw b
theorem HR(b:d6 u a V):OK u (xt a V c e f):=by
 cases d:a.en with
 |none=>
  rw[<-mG d]at b|-;cases V with
  |none=>exact zx b
  |some g=>exact zy b
 |some h=>
  rw[<-mG d]at b|-;cases V with
  |none=>exact Ww b
  |some g=>exact zC b
end
section
open PySem.Calls
noncomputable def xu(d:String)(b c:Wz):Spec:=⟨.builtin d ⟨[b,c],[]⟩,4,none,⟨[],[],nn,nn,λa ω=>[⟨a 0,pz b (a 1),false⟩,⟨a 1,kD c,false⟩],nn,[],nn⟩,λa ω=>uj (.ref (a 0))⟩
variable {a:Nat->WA gi} {c:WG} {b:WJ}
theorem rR{d:String}
 (o:∀(g:WK) (R:WH->WF->Prop) (e:WF),gq a e.heap->(R (.ok (.ret (.ref (e.heap.objs.size+1)))) {e with heap:=(e.heap.push (kD v)).push (pz x e.heap.objs.size)})->codeAny (model b c) g (.builtin d ⟨[x,v],[]⟩) R e):ct b c a (xu d x v):=by
 intro g R e s p n m q h;refine o g R e n ?_
 let i:AL:=cons (e.heap.objs.size+1) λω=>e.heap.objs.size
 refine h i (λω=> #[]) _ ?_
 have k:=m1 (K:=a) (pre:=[]) (o:=kD v) (fs:=aS g) (s:=e) (s1:={e with heap:=e.heap.push (kD v)}) (sl:=λω=> #[]) ⟨λj f=>(by cases f),List.nodup_nil,λj f=>(by cases f),List.nodup_nil,λj f=>(by cases f)⟩ m rfl ⟨e.toks,rfl⟩
 exact gO (E':=(xu d x v).UM) (al':=i) (c:=⟨e.heap.objs.size+1,pz x e.heap.objs.size,false⟩) k rfl rfl rfl rfl rfl rfl (by refine(?_:_=(e.heap.push (kD v)).objs.size);rw[Heap.size_push]) rfl rfl rfl λl r h=>by
  refine(?_:l<(e.heap.push (kD v)).objs.size);rw[Heap.size_push];exact Nat.lt_succ_of_lt (Heap.lt_size h)
theorem Dq:ct b c a (xu "ValueError.__new__" (.type "ValueError") v):=rR λf R e g d=>by
 obtain⟨j,i,h,tk,k⟩:=e;exact codeAny_exc_new F.excCall_ValueError.toExcNewFacts d
theorem Dr:OK u (xu "Exception.__new__" (.ref 44) v):=rR λc R d a b=>rA a b
noncomputable def zD:TU:=λa ω ω=>xu "ValueError.__new__" (.type "ValueError") (((lW a)[1]?).getD .none)
noncomputable def hE:TU:=λa ω ω=>xu "Exception.__new__" (.ref 44) (((lW a)[1]?).getD .none)
theorem rS:∀a c b,OK u (zD a c b):=λa c b=>Dq
theorem es:∀a c b,OK u (hE a c b):=λa c b=>Dr
end
noncomputable def xv:cl:= #[74,111,32,49,50,32,43,48,48,48,48]
noncomputable def T9(b:Nat):Spec:=⟨ul 634 [.bytes xv b],60,none,UM [] (λω=>[]) (λa=>[(a 0,Dn ⟨xv,none,none,false⟩ b 0 (a 1)),(a 1,Do ⟨xv,none,none,false⟩ 0)]),λa ω=>uj (.ref (a 0))⟩
theorem NB:h7 u xv ⟨xv,none,none,false⟩:=λb=>by
 have c:aI u (λω=>T9 b):=by
  exact oU 0x1000111012010110002110300203211400 [] [5,4] (aE [9,8]) trivial (Y:=λω=>[])
 exact c.alt rfl rfl rfl rfl rfl rfl λa d=>⟨cons (a 0) (cons (a 1) (cons b a)),d,rfl,rfl,rfl,rfl,rfl,rfl⟩
noncomputable def Qr(b:Wz)(c a:Nat):gi:=⟨b,none,.fields #[.ref c,.ref a,.none,.none,.bool false,.none],#[]⟩
noncomputable def SU(b:Wz)(a:Nat)(c:ui):gi:=⟨.type "traceback",none,.fields (b:: .ref a:: .none:: .none:: .none::c).toArray,#[]⟩
noncomputable def NC(b c:Wz)(a:AL)(d:SL):Wy aF:=[⟨a 0,Qr b (a 1) (a 2),false⟩,⟨a 2,SU c (a 3) (restOf (d 0)),false⟩]
noncomputable def F7(c:Code)(e:Nat)(b:Wy (Nat×gi))(d:Wz)(f:AL->Wz):Spec:=⟨c,e,none,⟨pl b,[],λω ω=>b.map (·.2),nn,λa g=>NC d (f a) a g,nn,[],nn⟩,λa ω=>.error (.ref (a 0))⟩
noncomputable def F8(a:Nat):Spec:=F7 (.call (.ref 146) ⟨[.int 103 a],[]⟩) 20 [] (.type "ValueError") λω=>.none
theorem Ds:aI u (λω=>F8 a):=
 oT 0x111cf100a06f102f110001101211011110300f21311 [[]] [2,4] (aE [9,10,12,0]) ⟨rS,cg⟩ (Y:=λω=>[zD]) (Z:=g4 [6])
noncomputable def SV(a:Nat):Spec:=F7 (.call (.ref 207) ⟨[.int 9223372036854775808 a],[]⟩) 20 [] (.ref 44) λω=>.none
theorem HS:aI u (λω=>SV a):=
 oT 0x140cf100205f11209f30ff30af02101100f0110101022222022021311 [[]] [2,4] (aE [7,8,10,0]) ⟨es,cg⟩ (Y:=λω=>[hE]) (Z:=g4 [4])
section
noncomputable def p3(c d:Wz)(b:Nat)(a:AL)(e:SL):Wy aF:=[⟨a 0,Qr c (a 1) (a 2),false⟩,⟨a 2,yr d b (restOf (e 0)),false⟩]
noncomputable def p4(d:WC)(c:Int)(b:Nat)(g:ug)(e:cl)(f h:Fin 16)(i:Nat)(a:AL):uk:=[fS (c+2*b+2) 0 2,cm (kS g b (yd f h) (cn 8 a)) (a 7),dP (.bytes e i),kR d (some (.int (c+2*b) (a 5))) (a 6)]
noncomputable def zE(c:WC)(i f m j b o:Nat)(n:Int)(k:Nat)(g:ug)(d:cl)(e h:Fin 16)(l:Nat)(q:WA Wz)(r:Nat):Spec:=
 ⟨CN i f m j b,60,some b,⟨pl (ma c i f m j o n (k+1) g d e h l q r),[],λa ω=>p4 c n k g d e h l a,nn,λa p=>p3 (.type "ValueError") (.ref (a 4)) b a p,nn,[],nn⟩,λa ω=>.error (.ref (a 0))⟩
noncomputable def ND(d:WC)(i f l j b h:Nat)(c:Int)(g:ug)(e:cl)(m n:Fin 16)(k:Nat)(q:WA Wz)(r:Nat)(o:AL->Nat):Spec:=
 ⟨CN i f l j b,60,some b,⟨pl (ma d i f l j h c 1 g e m n k q r),[],λa ω=>[fS (c+2) 0 2,cm g h,dP (.bytes e k),kR d (some (.int c (a 5))) (o a)],nn,λa p=>p3 (.type "ValueError") (.ref (a 4)) b a p,nn,[],nn⟩,λa ω=>.error (.ref (a 0))⟩
noncomputable def NE(i:WC)(g j l k h:Nat)(c:Int)(d:cl)(a:Fin 16):Wy U:=[λb f e=>yP g c (1:Nat) 2 (c+2) (0:Nat),oV d c (rD a),λb f e=>xl a (tk b 0),mulR (a.val:Nat) 16 ((a.val*16:Nat):Int),oV d (c+1) 103,λb f e=>F8 (tk b 0)]
noncomputable def jh(c:cl)(d e:Fin 16)(b:Int)(a:Nat):Prop:=gV c d e b a/\b+2*a+2<1000000/\c[b.toNat+2*a]?=some (dM d)/\c[b.toNat+2*a+1]?=some 103
noncomputable def SW:Nat:=0x13101124403430df20340110120101
variable {t1 tt it acc tx loc L ep:Nat} {b:WA Wz} {a:Fin 16}
theorem HT{as:ug}(n:b=none\/∃g p,b=some (.int g p))(m:jh k T a q 0):∃o,aI u (λu=>ND (Pm u) it acc tx loc L ep q as k T a tt b t1 o):=by
 obtain⟨⟨i,r,s⟩,t,j,l⟩:=m;have f:aw u (λu=>NE (Pm u) it acc tx loc L q k T):=⟨λc e d=>tE (by lia) rfl (by lia),λc e d=>iu i (by lia) (by simpa using j),λc e d=>nh T,pL (.of_right (by decide+kernel)) (by simp),λc e d=>iu (c:=103) (by lia) (by lia) (by
  have:(q+1).toNat=q.toNat+1:=by lia
  rw[this];simpa using l),λc e d=>Ds,cg⟩
 rcases n with rfl|⟨g,v,rfl⟩
 ·exact⟨λh=>h 6,oU SW [[0],[],[],[],[],[]] [3,2,1,0,5,6] (aE [73,137,105,0,201,0,1]) f (Z:=g4 [63])⟩
 ·exact⟨λω=>t1,oU SW [[0],[],[],[],[],[]] [3,2,1,0,5,6] (aE [73,137,105,0,201,0]) f (Z:=g4 [63])⟩
noncomputable def NF(f:WC)(j h n k e:Nat)(d:Int)(l:Nat)(i:ug)(g:cl)(b c:Fin 16)(m:Nat):U:=λo a p=>
 zE f j h n k e (eJ a 1) (d+2) l (i.push (.int (yd b c) (df (l8 a 4 1)))) g b c m (some (.int d (CL (a[3]?.getD default) 0))) (dN (a[3]?.getD default) 0)
noncomputable def NG(e:WC)(i g m j b o:Nat)(n:Int)(k:Nat)(h:ug)(f:cl)(c d:Fin 16)(l:Nat)(q:WA Wz)(r:Nat):Spec:=
 ⟨CN i g m j b,60,some b,⟨pl (ma e i g m j o n (k+2) h f c d l q r),[],λa ω=>p4 e (n+2) k (h.push (.int (yd c d) (a 0))) f c d l (cn 1 a),nn,λa p=>p3 (.type "ValueError") (.ref (cn 1 a 4)) b (cn 1 a) p,nn,[],nn⟩,λa ω=>.error (.ref (cn 1 a 0))⟩
noncomputable def NH(l:WC)(i m p n k:Nat)(b:Int)(f:Nat)(g:ug)(d:cl)(a e:Fin 16)(o:Nat):Wy U:=[λc j h=>yP i b (f+2:Nat) 2 (b+2) (f+1:Nat),oV d b (rD a),λc j h=>xl a (tk c 0),mulR (a.val:Nat) 16 ((a.val*16:Nat):Int),oV d (b+1) (rD e),λc j h=>xl e (tk c 0),CJ g,NF l i m p n k b f g d a e o]
theorem HU(v:b=none\/∃g j,b=some (.int g j))(s:jh k T a q (c+1))(t:H.size<=1000000)
 (w:∀i x m g,(i=none\/∃y j,i=some (.int y j))->OK u (zE (Pm u) it acc tx loc L m (q+2) c (H.push g) k T a tt i x)):aI u (λu=>NG (Pm u) it acc tx loc L ep q c H k T a tt b t1):=by
 obtain⟨⟨n,z,o⟩,A,C,D⟩:=s;obtain⟨p,r⟩:=o 0 (by lia);have l:aw u (λu=>NH (Pm u) it acc tx loc L q c H k T a tt):=⟨λd f e=>tE (by lia) rfl (by lia),λd f e=>iu n (by lia) (by simpa using p),λd f e=>nh T,pL (.of_right (by decide+kernel)) (by simp),λd f e=>iu (by lia) (by lia) (by
  have:(q+1).toNat=q.toNat+1:=by lia
  rw[this];simpa using r),λd f e=>nh a,λd f e=>lC t,λd f e=>w _ _ _ _ (.inr ⟨_,_,rfl⟩),cg⟩
 rcases v with rfl|⟨g,G,rfl⟩
 ·exact oU q6 [[0],[],[],[],[],[],[1],[0,1,2,3]] [3,2,1,0,5,4] (dT [105] λh=>dI (odd (cn 1 (odd (odd (cn 2 (odd (cn 1 (odd (odd (cn 1 (odd h)))))))))))) l (Z:=g4 [127])
 ·exact oU q6 [[0],[],[],[],[],[],[1],[0,1,2,3]] [3,2,1,0,5,4] (dT [105] λh=>dI (odd (cn 1 (odd (odd (cn 2 (odd (cn 1 (odd (odd (cn 1 (odd h)))))))))))) l (Z:=g4 [127])
theorem vG{u:WB}{e d h f c:Nat}{k:cl}{T a:Fin 16}{g:Nat}:∀(m:Nat) (l:Nat) (i:Int) (j:ug) (n:WA Wz) (o:Nat),(n=none\/∃v H,n=some (.int v H))->jh k T a i m->j.size+m<=1000000->
  OK u (zE (Pm u) e d h f c l i m j k T a g n o)
 |0,l,i,j,n,o,r,p,C=>by
  obtain⟨D,q⟩:=HT (u:=u) (it:=e) (acc:=d) (tx:=h) (loc:=f) (L:=c) (ep:=l) (as:=j) (tt:=g) (t1:=o) r p;refine q.alt rfl rfl rfl rfl rfl rfl λb t=>⟨(cons (b 0) (cons (b 1) (cons (b 2) (cons (b 3) (cons (b 4) (cons (b 5) (cons (D b) (cons (l) b)))))))),t,rfl, ?_,rfl,rfl,rfl,rfl⟩
  refine(?_:[_,_,_,_]=[_,_,_,_]);refine cY ?_ (cY ?_ (cY rfl (cY ?_ rfl)))
  ·rw[show i+2*((0:Nat):Int)+2=i+2 by lia]
  ·refine(?_:cm _ _=cm _ _);unfold kS;simp[oh];rfl
  ·rw[show i+2*((0:Nat):Int)=i by lia];rfl
 |m+1,l,i,j,n,o,r,p,C=>by
  have q:=HU (u:=u) (it:=e) (acc:=d) (tx:=h) (loc:=f) (L:=c) (ep:=l) (tt:=g) (t1:=o) r p (by lia) λG I w v x=>vG m w (i+2) (j.push v) G I x (by
   obtain⟨⟨J,L,y⟩,M,z,A⟩:=p;refine⟨⟨by lia,by lia,λs N=> ?_⟩,by lia, ?_, ?_⟩
   ·have:=y (s+1) (by lia);rw[show(i+2).toNat+2*s=i.toNat+2*(s+1) by lia];exact this
   ·rw[show(i+2).toNat+2*m=i.toNat+2*(m+1) by lia];exact z
   ·rw[show(i+2).toNat+2*m=i.toNat+2*(m+1) by lia];exact A) (by rw[Array.size_push];lia)
  refine q.alt rfl rfl rfl rfl rfl rfl λb t=>⟨(cons (b 1) (cons (b 2) (cons (b 3) (cons (b 4) (cons (b 5) (cons (b 6) (cons (b 7) (cons (b 8) (cons (b 0) (cn 9 b)))))))))),t,rfl, ?_,rfl,rfl,rfl,rfl⟩
  refine(?_:[_,_,_,_]=[_,_,_,_]);refine cY ?_ (cY ?_ (cY rfl (cY ?_ rfl)))
  ·rw[show i+2+2*(m:Int)+2=i+2*((m+1:Nat):Int)+2 by lia]
  ·refine(?_:cm _ _=cm _ _);unfold kS;rw[gu];rfl
  ·rw[show i+2+2*(m:Int)=i+2*((m+1:Nat):Int) by lia];rfl
noncomputable def zF(g:WC)(k:Bool)(d c f e b m:Nat)(h:cl)(i j:Fin 16)(l:Nat):Spec:=
 ⟨if k then .compStart Nf 0 (.ref d) (.ref c) (y0 f e b)else CN d c f e b,if k then 64 else 60,some b,⟨pl (ma g d c f e m 0 20 #[] h i j l none 0),[],λa ω=>p4 g 0 19 #[] h i j l a,nn,λa n=>p3 (.type "ValueError") (.ref (a 4)) b a n,nn,[],nn⟩,λa ω=>.error (.ref (a 0))⟩
theorem zG(b:jh k T a 0 19):OK u (zF (Pm u) false e d h f c i k T a g):=
 vG 19 i 0 #[] none 0 (.inl rfl) b (by simp)
theorem zH(n:jh k T a 0 19):aI u (λu=>zF (Pm u) true e d h f c i k T a g):=by
 obtain⟨o,b1,b2⟩:=u;cases b2 with
 |true=>exact oT 0x112 [[0,1,2,3]] [3,2,1,0,5,4] (dT [] λb=>dI b) ⟨λj m l=>zG n,cg⟩ (Y:=λu=>[λj m l=>zF (Pm u) false e d h f c i k T a g]) (Z:=g4 [0])
 |false=>exact oT 0x1111011112 [[0,1,2,3]] [3,2,1,0,5,4] (dT [] λb=>dI b) ⟨λj m l=>zG n,cg⟩ (Y:=λu=>[λj m l=>zF (Pm u) false e d h f c i k T a g]) (Z:=g4 [0])
noncomputable def F9(a:cl)(c:Nat):Spec:=F7 (.call (.ref 151) ⟨[.bytes a c],[]⟩) 90 [] (.type "ValueError") λb=>.ref (b 4)
theorem Dt(g:jh k T a 0 19)(f:k.size=40):aI u (λω=>F9 k c):=
 oT 0x1207f11a0ff000001012502f506f1111101001333112201122 [[],[],[2,1,4,0]] [7,6] (aE [31,39,47,0,63]) ⟨λb d e=>aD (by rw[f];rfl) (by lia),λb d e=>aD (by rw[f];rfl) (by lia),λb d e=>zH g,cg⟩ (Y:=λu=>[fl k 40,fl k 40,λb d e=>zF (Pm u) true (jf b) (hC b) (y5 b) (hD b) (l9 b) (eJ d 1) k T a c]) (Z:=g4 [3])
theorem HV(g:jh k T a 0 19)(e:k.size=40):aI u (λω=>B8 k c false):=
 oU 0x1124f1011010ff011011220020101211030000011303322 [[],[0],[]] [] (aE []) ⟨λb f d=>aD (by rw[e];rfl) (by lia),oX,λb f d=>Dt g e,cg⟩ (Y:=λω=>[fl k 40,pR 40 true,λb f d=>F9 k c])
end
section
open PySem.Calls
theorem rU:entryFor table "bytes.__repr__" =some Builtin.«bytes.__repr__»:=entryFor_of_tree (by kernel_rfl)
theorem zJ{d:WJ}{e:WG}{b:Nat->WA gi}{a:Str}(i:Builtin.Bytes.literal k=a)(r:k.size<=1000000)(t:a.length<=1000000):ct d e b (fh "bytes.__repr__" [.bytes k c] [] λg=>.str a (g 0)):=
 jV (by decide+kernel) rU λp f q E ω ω ω ω s m=>by
  have h:Builtin.«bytes.__repr__» ⟨[.bytes k c],[]⟩=retStr a:=by
   refine(?_:(Builtin.Bytes.literalAsked k>>=λo=>retStr o)=_)
   have n:Builtin.Bytes.literalAsked k=pure a:=by
    unfold Builtin.Bytes.literalAsked;have l:¬(Builtin.Bytes.tooLong (4*k.size+3+0) && Builtin.Bytes.tooLong (Builtin.Bytes.literalLength k false+0))=true:=by
     rw[Bool.and_eq_true];intro j;exact jb (by lia) j.1
    rw[if_neg l,i]
   rw[n];rfl
  rw[h];unfold retStr;exact ci (wpAny_mkStr (cj ⟨_,rfl,m (λω=>f.toks) (f.toks+1)⟩) (by refine(?_:a.length<=2^24);lia))
noncomputable def W1(a:WG)(c:Bool):WG:=⟨a.draws,{a.params with followText:=λb=>match PySem.W.S.strDecS b "fstring-hands-on-the-str" with
 | .isTrue _=>c
 | .isFalse _=>a.params.followText b}⟩
theorem vH(b:WG):W1 b (b.params.followText "fstring-hands-on-the-str")=b:=by
 obtain⟨f,c⟩:=b;have e:(λa=>match PySem.W.S.strDecS a "fstring-hands-on-the-str" with
  | .isTrue _=>c.followText "fstring-hands-on-the-str"
  | .isFalse _=>c.followText a)=c.followText:=by
  funext a;cases PySem.W.S.strDecS a "fstring-hands-on-the-str" with
  |isTrue d=>subst d;rfl
  |isFalse _=>rfl
 unfold W1;simp only[e]
end
section
noncomputable def rV(a:cl)(d:Str):U:=λc f e=>fh "bytes.__repr__" [.bytes a (tk c 0)] [] λb=>.str d (b 0)
noncomputable def xw(b c:Nat)(a:uh):Str:=⟨(98::39::((List.replicate 19 [b,c]).flatten++a)).toArray⟩
noncomputable def tW(a:cl)(c:Nat)(b:Str)(d:Nat):Spec:=F7 (.call (.ref 193) ⟨[.bytes a c,.str b d],[]⟩) 140 [] (.ref 44) λe=>.none
noncomputable def ij(a b:Fin 16):cl:=⟨(List.replicate 19 [dM a,dM b]).flatten++[dM a]⟩
noncomputable def gG(a b:Fin 16):cl:=⟨(List.replicate 19 [dM a,dM b]).flatten++[dM a,103]⟩
noncomputable def oY(b:cl):Prop:=∀a∈b.toList,32<=a.toNat/\a.toNat<127/\a.toNat≠39/\a.toNat≠92
theorem rW(d:UInt8->WD Nat):∀(b:Wy UInt8) (a:WD Nat),(∀c∈b,d c= #[c.toNat])->(b.foldl (λa c=>a++d c) a)=a++(b.map (·.toNat)).toArray
 |[],a,e=>by simp
 |c::b,a,e=>by
  rw[List.foldl_cons,e c (.head _),rW d b _ λg f=>e g (.tail _ f)]
  apply Array.ext';simp
theorem oZ{a:cl}(g:oY a):Builtin.Bytes.literal a=⟨(98::39::(a.toList.map (·.toNat)++[39])).toArray⟩:=by
 have d:a.contains 39=false:=by
  rw[<-Bool.not_eq_true,Array.contains_iff_mem];intro m;exact(g 39 (by simpa using m)).2.2.1 rfl
 unfold Builtin.Bytes.literal;simp only[d,Bool.false_and];rw[<-Array.foldl_toList];have n:∀c∈a.toList,(λc:Nat=>if(c==(if false then 39 else(if false=true then(34:Nat)else 39))||c==92)=true then #[92,c]else if(c==9)=true then #[92,116]else if(c==10)=true then #[92,110]else if(c==13)=true then #[92,114]else if(decide (c<32)||decide (c>=127))=true then #[92,120,(λb=>if b<10 then 48+b else 87+b) (c/16),(λb=>if b<10 then 48+b else 87+b) (c % 16)]else #[c]) c.toNat= #[c.toNat]:=λc d=>by
  obtain⟨o,p,q,r⟩:=g c d;have e1:(c.toNat==39)=false:=by simp;lia
  have e2:(c.toNat==92)=false:=by simp;lia
  have e3:(c.toNat==9)=false:=by simp;lia
  have i:(c.toNat==10)=false:=by simp;lia
  have j:(c.toNat==13)=false:=by simp;lia
  have e6:(decide (c.toNat<32))=false:=by simp;lia
  have e7:(decide (c.toNat>=127))=false:=by simp;lia
  simp[e1,e2,e3,i,j,e6,e7]
 have k:=rW _ a.toList #[98,39] n;have l:∀e f:WD Nat,e=f->(⟨e.push 39⟩:Str)=⟨f.push 39⟩:=λe f h=>by rw[h]
 refine(l _ _ k).trans ?_;congr 1;apply Array.ext';simp
instance (b:cl):Decidable (oY b):=by unfold oY;infer_instance
theorem nv:∀a:Fin 16,32<=(dM a).toNat/\(dM a).toNat<127/\(dM a).toNat≠39/\(dM a).toNat≠92:=by decide+kernel
variable {a:Fin 16}
theorem o0{b:Fin 16}{c:Wy UInt8}(g:∀d∈c,d=dM a\/d=dM b\/d=103):oY ⟨(List.replicate 19 [dM a,dM b]).flatten++c⟩:=by
 intro d e;have:d=dM a\/d=dM b\/d=103:=by
  rcases ud e with f|f
  ·obtain⟨i,h,e⟩:=List.mem_flatten.mp f;rw[(List.mem_replicate.mp h).2]at e;simp only[List.mem_cons,List.not_mem_nil,or_false]at e;rcases e with rfl|rfl<;>simp
  ·exact g d f
 rcases this with rfl|rfl|rfl
 ·exact nv a
 ·exact nv b
 ·decide
theorem NI(a b:Fin 16):Builtin.Bytes.literal (ij a b)=xw (dM a).toNat (dM b).toNat [(dM a).toNat,39]:=by
 have d:oY (ij a b):=o0 (a:=a) (b:=b) λe c=>by rw[List.mem_singleton]at c;exact .inl c
 rw[oZ d];rfl
theorem Ru(a b:Fin 16):Builtin.Bytes.literal (gG a b)=xw (dM a).toNat (dM b).toNat [(dM a).toNat,103,39]:=by
 have d:oY (gG a b):=o0 (a:=a) (b:=b) λe c=>by
  simp only[List.mem_cons,List.not_mem_nil,or_false]at c;rcases c with rfl|rfl<;>simp
 rw[oZ d];rfl
theorem zK(b c:Fin 16):jh (gG b c) b c 0 19:=by
 refine⟨⟨by decide,by decide,λd a=> ?_⟩,by decide,rfl,rfl⟩
 exact match d,a with
  |0,_=>⟨rfl,rfl⟩|1,_=>⟨rfl,rfl⟩|2,_=>⟨rfl,rfl⟩|3,_=>⟨rfl,rfl⟩|4,_=>⟨rfl,rfl⟩|5,_=>⟨rfl,rfl⟩|6,_=>⟨rfl,rfl⟩|7,_=>⟨rfl,rfl⟩|8,_=>⟨rfl,rfl⟩|9,_=>⟨rfl,rfl⟩|10,_=>⟨rfl,rfl⟩|11,_=>⟨rfl,rfl⟩|12,_=>⟨rfl,rfl⟩|13,_=>⟨rfl,rfl⟩|14,_=>⟨rfl,rfl⟩|15,_=>⟨rfl,rfl⟩|16,_=>⟨rfl,rfl⟩|17,_=>⟨rfl,rfl⟩|18,_=>⟨rfl,rfl⟩|n+19,a=>absurd a (by lia)
theorem k5{a:Str}(e:Builtin.Bytes.literal k=a)(f:k.size<=1000000)(g:a.length<=1000000):∀b d c,OK u (rV k a b d c):=λb d c=>zJ e f g
noncomputable def Qs:Nat:=0x112ff111020ef11012209f30ff30af02101100f0110101022222022021311
theorem Du:OK u (tW (ij T a) c (lq "invalid tree sha") d):=by
 obtain⟨f,b1,b2⟩:=u;have i:=NI T a;have j:∀m,OK ⟨m,b1,b2⟩ (B8 (ij T a) c false):=λm=>Hp rfl
 have k:(ij T a).size<=1000000:=by refine(?_:39<=1000000);decide
 generalize (dM T).toNat=g,(dM a).toNat=n,ij T a=e at i j k|-;have o:∀(f:WG) (b:Bool),aI ⟨W1 f b,b1,b2⟩ (λω=>tW e c (lq "invalid tree sha") d):=λf b=>by
  cases b with
  |true=>exact oT Qs [[],[],[]] [2,4] (aE [19,23,31,0]) ⟨λb l h=>j _,k5 i k (by refine(?_:42<=1000000);decide),es,cg⟩ (Y:=λω=>[λb l h=>B8 e c false,rV e (xw g n [g,39]),hE]) (Z:=g4 [16])
  |false=>exact oT Qs [[],[],[]] [2,4] (aE [13,17,25,0]) ⟨λb l h=>j _,k5 i k (by refine(?_:42<=1000000);decide),es,cg⟩ (Y:=λω=>[λb l h=>B8 e c false,rV e (xw g n [g,39]),hE]) (Z:=g4 [16])
 exact vH f▸o f _
theorem Dv:OK u (tW (gG T a) c (lq "invalid parent sha") d):=by
 obtain⟨f,b1,b2⟩:=u;have i:=Ru T a;have j:∀m,OK ⟨m,b1,b2⟩ (B8 (gG T a) c false):=λm=>HV (zK T a) rfl
 have k:(gG T a).size<=1000000:=by refine(?_:40<=1000000);decide
 generalize (dM T).toNat=g,(dM a).toNat=n,gG T a=e at i j k|-;have o:∀(f:WG) (b:Bool),aI ⟨W1 f b,b1,b2⟩ (λω=>tW e c (lq "invalid parent sha") d):=λf b=>by
  cases b with
  |true=>exact oT Qs [[],[],[]] [2,4] (aE [19,23,31,0]) ⟨λb l h=>j _,k5 i k (by refine(?_:43<=1000000);decide),es,cg⟩ (Y:=λω=>[λb l h=>B8 e c false,rV e (xw g n [g,103,39]),hE]) (Z:=g4 [16])
  |false=>exact oT Qs [[],[],[]] [2,4] (aE [13,17,25,0]) ⟨λb l h=>j _,k5 i k (by refine(?_:43<=1000000);decide),es,cg⟩ (Y:=λω=>[λb l h=>B8 e c false,rV e (xw g n [g,103,39]),hE]) (Z:=g4 [16])
 exact vH f▸o f _
end
section
open PySem.Calls
noncomputable def eu(a b:Nat):gi:=⟨.ref a,some b,.plain,#[]⟩
noncomputable def tX(b c a:Nat):gi:={cls:= .type "super",dict:=none,data:= .fields #[.ref b,.ref c,.ref a],slots:= #[]}
noncomputable def NJ(a b:Nat):gi:={cls:= .type "method",data:= .fields #[.ref a,.ref b]}
noncomputable def NK(a:WC):Frag:=[(888,u7 a),(310,yn a),(311,yo a),(2,Qk a)]
theorem zL{w:WG}{a:Heap}(b:gq (KB w) a):(NK w.params).In a:=by refine Frag.in_of (as:=[888,310,311,2]) rfl ?_;refine(?_:[a.get? 888,a.get? 310,a.get? 311,a.get? 2]=_);rw[b 888 (u7 w.params) (by kernel_rfl),b 310 (yn w.params) (by kernel_rfl),b 311 (yo w.params) (by kernel_rfl),b 2 (Qk w.params) (by kernel_rfl)];rfl
theorem uv:entryFor table "super.__getattribute__" =some Builtin.«super.__getattribute__»:=entryFor_of_tree (by kernel_rfl)
noncomputable def NL(b a c d:Nat):Spec:=FP "super.__getattribute__" [.ref b,.str (lq "__init__") d] [(b,tX 888 a 888),(a,eu 888 c)] (NJ 242 a)
theorem HW:OK u (NL c a d e):=by
 intro g R f o j b i h k;have n:a≠888:=by
  have:=(h.pre ⟨a,eu 888 d,false⟩ (.tail _ (.head _))).2.1;rintro rfl;rw[show KB (W2 u) 888=some (u7 (Pm u)) by kernel_rfl]at this;cases this
 refine vi (P:=PW) (w:=W2 u) (K:=KB (W2 u)) (by decide+kernel) uv rfl (λg f r E ω ω ω b p q=> ?_) g R f o j b i h k
 have m:f.heap.get? c=some (tX 888 a 888):=p (c,tX 888 a 888) (.head _);obtain⟨v,t,s,tk,x⟩:=f;have X:=zL (w:=W2 u) b;refine ks_wpAny_super_ga (l₀:=[.ref 888,.ref 311,.type "object"]) (l:=[.ref 311,.type "object"]) m (Looks.of_peek X (by kernel_rfl)) (Looks.of_peek X (by kernel_rfl)) (by decide+kernel) X (by kernel_rfl) (b 242 (FK (Pm u)) (by kernel_rfl)) rfl n (by decide+kernel) ⟨_,rfl,q tk⟩
end
noncomputable def SY(b:uk)(a:Nat):Nat:=((b[a]?.getD default).dict).getD 0
noncomputable def NM:U:=λa b d=>NL (ad a 0) (match(ky b 0 1)with| .ref c=>c|_=>0) (SY b 1) (tk a 1)
theorem Dw:∀a c b,OK u (NM a c b):=λa c b=>HW
structure CM where
 (sha U4:Wz)
 U8:Bool
 (parents enc sig extra Wo Wn tree msg UK Vq VE UL Vo Vy:Wz)
noncomputable def vI(a:WC)(c:CM)(b:AL):Wy WL:=[dx a "_sha" (b 0) c.sha,dx a "_chunked_text" (b 1) c.U4,dx a "_needs_serialization" (b 2) (.bool c.U8),dx a "object_format" (b 3) (.ref 76),dx a "_parents" (b 4) c.parents,dx a "_encoding" (b 5) c.enc,dx a "_gpgsig" (b 6) c.sig,dx a "_extra" (b 7) c.extra,dx a "_author_timezone_neg_utc" (b 8) c.Wo,dx a "_commit_timezone_neg_utc" (b 9) c.Wn]
noncomputable def HX(a:WC)(c:CM)(b:AL):gi:=fk (vI a c b) 10
noncomputable def Rv(a:WC)(c:CM)(b:AL):gi:=fk (vI a c b++[dx a "_tree" (b 10) c.tree,dx a "_message" (b 11) c.msg,dx a "_author" (b 12) c.UK,dx a "_author_time" (b 13) c.Vq,dx a "_author_timezone" (b 14) c.VE,dx a "_committer" (b 15) c.UL,dx a "_commit_time" (b 16) c.Vo,dx a "_commit_timezone" (b 17) c.Vy]) 18
noncomputable def Rw(b a:Nat):CM:=⟨.none,.none,true,.ref b,.none,.none,.ref a,.bool false,.bool false,.none,.none,.none,.none,.none,.none,.none,.none⟩
noncomputable def NN(b:WC):Spec:=⟨ul 888 [],100,none,UM [] (λω=>[]) (λa=>[(a 0,eu 888 (a 1)),(a 1,HX b (Rw (a 2) (a 3)) (cn 4 a)),(a 2,cm #[] 0),(a 3,cm #[] 0)]),λa ω=>uj (.ref (a 0))⟩
theorem Dx:aI u (λu=>NN (Pm u)):=
 oU 0x11519f150af050af01300f131f9234f21ff102f11af330300f10112100110001110f4bff18f918ff19f319f1531af50150510df5066600f18ff18f818f56319f60160610cf607770f18ff18f818f620cf017017070000070888 [[0,2]] [1,0,6,7] (aE [1,0,30,44,16,20,24,28,34,38,42,48,52,56]) ⟨Dw,cg⟩ (Y:=λω=>[NM])
noncomputable def S0:PySem.Expr:=tH [54,4,2] []
noncomputable def nw(b:cl):Wy cl->cl
 |[]=>b
 |q::a=>nw q a
noncomputable def NO(a:WC)(d:Wy cl)(e f:Nat):gi:=match d with
 |[]=>fk [] 0
 |c::b=>fk [dx a "p" e (.bytes (nw c b) f)] 1
noncomputable def Ua(c b d a:Nat):Code:= .compStart S0 0 (.ref c) (.ref b) (yV S0 (lq "Commit._deserialize.<locals>.") 676 d a)
noncomputable def S1(i:WC)(c g e h d f:Nat)(a:Wy cl)(b:AL):Spec:=
 ⟨Ua c e h d,60,some d,⟨pl [(c,dp g c 0),(g,cp a b f),(e,cm #[] 0),(h,fk [] 0)],[],λj ω=>[dL "list_iterator" [.none,.int a.length 0],cp a b f,cp a b a.length,NO i a (j 0) (b (a.length-1))],nn,nn,nn,[],nn⟩,λω ω=>.ok .next⟩
theorem NP(b:A.length<=3):aI u (λu=>S1 (Pm u) e f c g a d A y):=by
 obtain⟨k,b1,b2⟩:=u
 match A,b with
 |[],_=>cases b2 with
  |true=>exact oT 0x1131011111211001 [] [3,2,1,0] (aE []) trivial (Y:=λω=>[])
  |false=>exact oT 0x111206f31011111211001 [] [3,2,1,0] (aE []) trivial (Y:=λω=>[])
 |[h],_=>cases b2 with
  |true=>exact oT 0x1131011111211440400000111001014144432012122322001 [] [3,2,1,0] (aE [0]) trivial (Y:=λω=>[])
  |false=>exact oT 0x111206f31011111211440400000111001014144432012122322001 [] [3,2,1,0] (aE [0]) trivial (Y:=λω=>[])
 |[h,i],_=>cases b2 with
  |true=>exact oT 0x11310111112114404920f4144432012122322550500000111001015155533013133433001 [] [3,2,1,0] (aE [0]) trivial (Y:=λω=>[])
  |false=>exact oT 0x111206f310111112114404920f4144432012122322550500000111001015155533013133433001 [] [3,2,1,0] (aE [0]) trivial (Y:=λω=>[])
 |[h,i,j],_=>cases b2 with
  |true=>exact oT 0x11310111112114404920f41444320121223225505920f5155533013133433660600000111001016166634014144544001 [] [3,2,1,0] (aE [0]) trivial (Y:=λω=>[])
  |false=>exact oT 0x111206f310111112114404920f41444320121223225505920f5155533013133433660600000111001016166634014144544001 [] [3,2,1,0] (aE [0]) trivial (Y:=λω=>[])
 |_::_::_::_::_,b=>exact absurd b (by simp)
noncomputable def Ub(c:WC)(g:Wy cl)(e:Wy AL->AL):U:=λa b f=>S1 c (jf a) (match ky b 0 0 with| .ref d=>d|_=>0) (hC a) (hD a) (l9 a) (eJ b 1) g (e f)
section
noncomputable def Qt(b:Rd)(c:WA cl)(a:AL):CM:=⟨.none,.ref (a 2),false,.ref (a 3),iX b.en (a 4),iX c (a 5),.ref (a 6),.bool b.fA.neg,.bool b.fC.neg,.bytes b.d.r (a 7),.bytes b.msg (a 8),.bytes b.fA.person (a 9),gw b.fA.time (a 10),gw b.fA.zone (a 11),.bytes b.fC.person (a 12),gw b.fC.time (a 13),gw b.fC.zone (a 14)⟩
noncomputable def zM(c:WC)(b:Rd)(d:WA cl)(e:Nat)(a:AL):Wy (Nat×gi):=[(a 0,eu 888 (a 1)),(a 1,Rv c (Qt b d a) (cn 21 a)),(a 2,cp [b.T] (λω=>e) 0),(a 3,cp b.ps (zq (a 15) (a 16) (a 17)) b.ps.length),(a 6,cm (ei b.E.length (a 18) (a 19)) (a 20))]
noncomputable def rX(b:Rd)(a:AL):jz:=⟨ei b.E.length (a 18) (a 19),b.E⟩
noncomputable def HY(h:WC)(c:Rd)(i:WA cl)(f b g:Nat)(d:Wz)(e:ui):Spec:=
 ⟨ul 277 [.ref 888,.bytes c.T f],260,none,⟨pl [(393,ee b),(b,dq d cZ g e)],[],λω ω=>[ee b,dq d cZ g e],nn,λa ω=>pl (zM h c i f a),nn,[],λa ω=>[rX c a]⟩,λa ω=>uj (.ref (a 0))⟩
noncomputable def Dy(d:WC)(b:Rd)(e:WA cl)(c:Nat):Spec:=
 ⟨ul 277 [.ref 888,.bytes b.T c],260,none,⟨pl [(393,aT)],[],λa ω=>[ee (a 39)],nn,λa ω=>pl (zM d b e c a++[(a 39,dq (jW (a 40)) cZ (a 41) (iH (a 42) (a 43) (a 44) (a 45) (a 46) (a 47) (a 48) (a 49)))]),nn,[],λa ω=>[rX b a]⟩,λa ω=>uj (.ref (a 0))⟩
noncomputable def Ga(a:WC)(b:CM)(d c:AL):gi:=fk (vI a b d++[dx a "_tree" (c 10) b.tree,dx a "_message" (c 11) b.msg,dx a "_author" (c 12) b.UK,dx a "_author_time" (c 13) b.Vq,dx a "_author_timezone" (c 14) b.VE,dx a "_committer" (c 15) b.UL,dx a "_commit_time" (c 16) b.Vo,dx a "_commit_timezone" (c 17) b.Vy]) 18
noncomputable def Gb(b:Rd)(c:Nat)(a:AL):Wy (Nat×gi):=[(a 2,cp [b.T] (λω=>c) 0),(a 3,cp b.ps (zq (a 15) (a 16) (a 17)) b.ps.length),(a 6,cm (ei b.E.length (a 18) (a 19)) (a 20))]
noncomputable def iY(f:WC)(c e m l:Nat)(h:AL)(b:Rd)(n:WA cl)(j d k:Nat)(g:Wz)(i:ui):Spec:=
 ⟨ul 263 [.ref c,.bytes b.T j],245,none,⟨pl [(c,eu 888 e),(e,HX f (Rw m l) h),(393,ee d),(d,dq g cZ k i)],[],λa ω=>[eu 888 e,Ga f (Qt b n a) h (cn 11 a),ee d,dq g cZ k i],nn,λa ω=>pl (Gb b j a),nn,[],λa ω=>[rX b a]⟩,λa ω=>uj .none⟩
noncomputable def ov(e:WC)(c d i h:Nat)(f:AL)(b:Rd)(j:WA cl)(g:Nat):Spec:=
 ⟨ul 263 [.ref c,.bytes b.T g],245,none,⟨pl [(c,eu 888 d),(d,HX e (Rw i h) f),(393,aT)],[],λa ω=>[eu 888 d,Ga e (Qt b j a) f (cn 11 a),ee (a 39)],nn,λa ω=>pl (Gb b g a++[(a 39,dq (jW (a 40)) cZ (a 41) (iH (a 42) (a 43) (a 44) (a 45) (a 46) (a 47) (a 48) (a 49)))]),nn,[],λa ω=>[rX b a]⟩,λa ω=>uj .none⟩
noncomputable def tY(a:WC):U:=λb d c=>NN a
noncomputable def ji(h:Rd)(f:WA cl)(d g:Nat)(b:Wz)(e:ui):U:=λc a i=>xr h f (ad c 0) (eJ a 0) (lk a 0 0) d b g e
noncomputable def p5(d:Rd)(c:WA cl):U:=λb a e=>xt d c (ad b 0) (eJ a 0) (lk a 0 0)
noncomputable def mo(b:WC)(c:Rd):U:=Ub b c.ps λa=>zq (cH a 0 9) (cH a 0 10) (cH a 0 11)
theorem jF:∀a c b,OK u (tY (Pm u) a c b):=λa c b=>Dx
variable {a:Rd}
theorem ej(g:d6 u a V):∀b f e,OK u (ji a V c d v L b f e):=λb f e=>HQ g
theorem hF(e:d6 u a V):∀b d c,OK u (p5 a V b d c):=λb d c=>HR e
theorem d4(e:a.ps.length<=3):∀b d c,OK u (mo (Pm u) a b d c):=λb d c=>NP e
noncomputable def jk(a:yf):Prop:=(∃b c,a.time=some b/\a.zone=some c)\/(a.time=none/\a.zone=none)
noncomputable def q0:uh:=[0,0,4,45,26,28,32,18,30,50,52,54,58,60,62,34,36,38,42,44,46,41,79,107,115,135,163,171,191]
theorem zO(l:d6 u a V)(m:a.ps.length<=3)(r:jk a.fA)(s:∃o q,a.fC.time=some o/\a.fC.zone=some q):aI u (λu=>iY (Pm u) e f h g y a V i c d v L):=by
 have n:aw u (λu=>[ji a V c d v L,mo (Pm u) a]):=⟨ej l,d4 m,cg⟩
 clear l m;obtain⟨x,z,A,D,t,w,p,k,E,⟨J,N,zA,G⟩,⟨M,O,T,H⟩⟩:=a;obtain⟨o,q,b,j⟩:=s;simp only at b j;subst b j;rcases r with⟨C,Q,b,j⟩|⟨b,j⟩<;>simp only at b j<;>subst b j
 all_goals cases p with
  |nil=>cases k<;>cases V<;>exact oT 0x1780f0131ff805f2208f2310853f1f18f918f014014511f5551705f040000451289f108f0020bf020cff09ff09ff09ff09f25d8f21ecfd00fb20cf002f10fd00fd118f0fd010d10d10db550151010011f19ff19ff19ff19ff19f519f0ed20cf010d5f012d140f12d013d13d13d0edaaa01a10f09f809f351fb15bff18f218f11d20cf002f115d015d135f15d016d16d16d0ed0ed0ed010ed10f09f552f0fd166ff18f318f20cf002f118d018d140f18d019d19d19d14d12d12d12d0112d10f09f809f351f13d15bff18f218f17d20cf002f11bd01bd135f1bd01cd1cd1cd16d16d16d0116d10f09f11101111117d11001f18f218f1adf18f118f1bd20cf002f11ed01ed000001ed01fd1fd1fd [[2,6,7],[2,7,1,0]] [3,2,1,0,5,19,12] (aE q0) n (R:=[.UO 0])
  |cons I p=>cases k<;>cases V<;>exact oT 0x1780f0131ff805f2208f2310853f1f18f918f014014511f5551705f040000451289f108f0020bf020cff09ff09ff09ff09f25daf21eefd00fb20cf002f10fd00fd11af0fd010d10d10db550151010190ff19ff19ff19ff19ff19f519f0ed20cf010d5f012d140f12d013d13d13d0edaaa01a10f09f809f351fb15bff18f218f11d20cf002f115d015d135f15d016d16d16d0ed0ed0ed010ed10f09f552f0fd166ff18f318f20cf002f118d018d140f18d019d19d19d14d12d12d12d0112d10f09f809f351f13d15bff18f218f17d20cf002f11bd01bd135f1bd01cd1cd1cd16d16d16d0116d10f09f11101111117d11001f18f218f1adf18f118f1bd20cf002f11ed01ed000001ed01fd1fd1fd [[2,6,7],[2,7,1,0]] [3,2,1,0,5,19,12] (aE q0) n (R:=[.UO 0])
noncomputable def q1:uh:=[0,0,4,45,26,28,32,18,30,50,52,54,58,60,62,34,36,38,42,44,46,41,79,107,115,135,163,171,191,0,0,0,0,0,0,0,0,0,0,64,66,68,70,72,74,76,78,80,82,84]
theorem HZ(j:d6 u a V)(k:a.ps.length<=3)(r:∃b c,a.fA.time=some b/\a.fA.zone=some c)(s:∃b c,a.fC.time=some b/\a.fC.zone=some c):aI u (λu=>ov (Pm u) e f h g y a V i):=by
 have n:aw u (λu=>[p5 a V,mo (Pm u) a]):=⟨hF j,d4 k,cg⟩
 clear j k;obtain⟨w,x,z,C,t,v,q,d,E,⟨I,L,zA,D⟩,⟨J,M,O,G⟩⟩:=a;obtain⟨b,c,l,o⟩:=s;obtain⟨A,N,m,p⟩:=r;simp only at l o m p;subst l o m p;cases q with
 |nil=>cases d<;>cases V<;>exact oT 0x1780f0131ff805f2208f2310853f1f18f918f014014511f5551705f040000451289f108f0020bf020cff09ff09ff09ff09f25d8f21ecfd00fc20cf002f110d010d118f10d011d11d11dc550151010011f19ff19ff19ff19ff19f519f0fd20cf002f113d013d140f13d014d14d14d0fdaaa01a10f09f809f351fb15bff18f218f12d20cf010d4f016d135f16d017d17d17d0ed0ed0ed010ed10f09f552f0fd166ff18f318f20cf002f119d019d140f19d01ad1ad1ad15d12d12d12d0112d10f09f809f351f13d15bff18f218f18d20cf002f11cd01cd135f1cd01dd1dd1dd16d16d16d0116d10f09f11101111117d11001f18f218f1bdf18f118f1cd20cf002f11fd01fd000001fd020d20d20d [[2,6],[2,7,1,0]] [2,1,0,4,19,12,7] (aE q1) n (R:=[.UO 0])
 |cons H q=>cases d<;>cases V<;>exact oT 0x1780f0131ff805f2208f2310853f1f18f918f014014511f5551705f040000451289f108f0020bf020cff09ff09ff09ff09f25daf21eefd00fc20cf002f110d010d11af10d011d11d11dc550151010190ff19ff19ff19ff19ff19f519f0fd20cf002f113d013d140f13d014d14d14d0fdaaa01a10f09f809f351fb15bff18f218f12d20cf010d4f016d135f16d017d17d17d0ed0ed0ed010ed10f09f552f0fd166ff18f318f20cf002f119d019d140f19d01ad1ad1ad15d12d12d12d0112d10f09f809f351f13d15bff18f218f18d20cf002f11cd01cd135f1cd01dd1dd1dd16d16d16d0116d10f09f11101111117d11001f18f218f1bdf18f118f1cd20cf002f11fd01fd000001fd020d20d20d [[2,6],[2,7,1,0]] [2,1,0,4,19,12,7] (aE q1) n (R:=[.UO 0])
end
section
noncomputable def Ta(b:uk)(a:Nat):Nat:=((b[a]?.getD default).dict).getD 0
noncomputable def Tb(d:WC)(j:Rd)(h:WA cl)(f i:Nat)(e:Wz)(g:ui):U:=λb c k=>let a:=c[1]?.getD default
 iY d (ad b 0) (Ta c 0) (hu (aA a 4)) (hu (aA a 7)) (dN a) j h (tk b 1) f i e g
noncomputable def Rx(d:WC)(f:Rd)(e:WA cl):U:=λb c g=>let a:=c[1]?.getD default
 ov d (ad b 0) (Ta c 0) (hu (aA a 4)) (hu (aA a 7)) (dN a) f e (tk b 1)
variable {a:Rd}
theorem H0(f:d6 u a V)(g:a.ps.length<=3)(h:jk a.fA)(i:∃j k,a.fC.time=some j/\a.fC.zone=some k):aI u (λu=>HY (Pm u) a V c d e v L):=
 oU 0x10001111110cf1555805f1100f0125018 [[],[0,1,5,6]] [1,0,6,5,9,8,7] (dT [4,6,15,19,23,27,31,35,39,43,47,51,55,59,63,67,71,75,79,83,87,12,14,16,18,20,22,24,26,28,30,91,95,99,103,107,111,115,119] λb=>dI (cn 1 (odd (cn 4 b)))) ⟨jF,λl n m=>zO f g h i,cg⟩ (Y:=λu=>[tY (Pm u),Tb (Pm u) a V d e v L]) (R:=[.UO 0])
theorem H1(f:d6 u a V)(g:a.ps.length<=3)(h:∃b d,a.fA.time=some b/\a.fA.zone=some d)(i:∃b d,a.fC.time=some b/\a.fC.zone=some d):aI u (λu=>Dy (Pm u) a V c):=
 oU 0x10001111110cf1555805f1100f0125019 [[],[0,1,5]] [0,5,4,9,8,7,6] (dT [4,6,15,19,23,27,31,35,39,43,47,51,55,59,63,67,71,75,79,83,87,12,14,16,18,20,22,24,26,28,30,91,95,99,103,107,111,115,119,163,167,171,175,179,183,187,191,195,199,203] λe=>dI (cn 1 (odd (cn 4 e)))) ⟨jF,λj l k=>HZ f g h i,cg⟩ (Y:=λu=>[tY (Pm u),Rx (Pm u) a V]) (R:=[.UO 0])
end
variable {P:eY}
structure lD(T:cl)(kb:cl)(d:eY):Prop where
 ch:dW [T] T
 line:dA T 0 d.line d.n
 sp:aB d.line #[32]=false
 Vr:eQ d.line kb d.rb
 row:er T ((d.n:Int)+1) kb d.rb d.UP d.np d.lp d.r
noncomputable def xy(c:cl)(b e h a:Nat)(d:Wz)(i:Nat)(g:ui)(f:AL->Wz):Spec:=
 F7 (.call (.ref 649) ⟨[.ref b],[]⟩) 215 [(b,cp [c] (λω=>h) e),(393,ee a),(a,dq d cZ i g)] (.ref 44) f
noncomputable def zQ(u:WB)(c h:cl)(a:eY)(j g k f:Nat)(d:Wz)(l:Nat)(i:ui):U:=λe m b=>ye (ad e 0) (cH b 0 1) (F5 (cH b 0 3)) (F5 (cH b 0 4)) (.fresh (eo (cH b 0 2))) (fe u (cH b 0 2)) (zg u (cH b 0 2) j (cH b 0 5) g f d l i [c] (λω=>k) c a.line h a.rb a.n a.UP a.np a.lp a.r) 0
theorem mH(b:lD k l P):∀g i h,OK u (zQ u k l P a e f c v d L g i h):=λg i h=>pW b.ch b.line b.sp b.Vr b.row
noncomputable def Gc:Nat:=0x1282f115df220700f304444040420f03101123310f0f09f111011111211001100fb001409f30ff30af02101100f0110101022222022021331120311
theorem Wx(h:lD k (az .parent) P):aI u (λω=>xy k a e f c v d L (λω=>.none)):=by
 have i:aw u (λu=>[λb j g=>qH (Pm u) a,zQ u k (az .parent) P a e f c v d L,hE]):=⟨λb j g=>gv,mH h,es,cg⟩
 exact oT Gc [[],[0,1,6,7,8],[]] [2,1,0,15,17] (aE [43,47,55,0]) i (G:=[[],[0],[]]) (Z:=g4 [54])
theorem zV(h:lD k (az .UK) P):aI u (λω=>xy k a e f c v d L (λω=>.none)):=by
 have i:aw u (λu=>[λb j g=>qH (Pm u) a,zQ u k (az .UK) P a e f c v d L,hE]):=⟨λb j g=>gv,mH h,es,cg⟩
 exact oT Gc [[],[0,1,6,7,8],[]] [2,1,0,15,17] (aE [43,47,55,0]) i (G:=[[],[0],[]]) (Z:=g4 [54])
noncomputable def zW(u:WB)(b:cl)(a:Str):Prop:=∀c d,OK u (tW b c a d)
theorem Dz(j:lD k (az .tree) P)(l:zW u P.r (lq "invalid tree sha")):aI u (λω=>xy k a e f c v d L (λi=>.ref (i 4))):=by
 have m:aw u (λu=>[λb h g=>qH (Pm u) a,zQ u k (az .tree) P a e f c v d L,λb h g=>tW P.r (tk b 0) (lq "invalid tree sha") (tk b 1)]):=⟨λb h g=>gv,mH j,λb h g=>l _ _,cg⟩
 exact oT 0x1000239f000220700f304444040420f03101123310f0f09f111011111211001bbb411f30cf106fb0011bb0b0101221110211 [[],[0,1,6,7,8],[]] [2,1,0,15,16] (aE [47,55,51,0,63]) m (G:=[[],[0],[]]) (Z:=g4 [90])
noncomputable def Ry(b:Wz):Nat:=match b with
 | .int (.ofNat a) _=>a
 |_=>0
noncomputable def Rz(b:uk)(g c:Nat)(d h j l:cl)(k f:Nat)(e:Wz)(m:Nat)(i:ui):PG:=
 let a:=b[1]?.getD default
 ⟨g,Ry (ky b 0 0),ky b 0 1,ky b 0 2,HD c a d h j l k,HM (dN a 0) (dN a 1) (dN a 2) (dN a 3) (dN a 4) (dN a 5) (dN a 6) (dN a 7) (dN a 8) (dN a 9),f,(fdOf (b[2]?.getD default)).doc,iF,e,m,i⟩
noncomputable def RA(u:WB)(i:Nat)(f k:cl)(b:eY)(j:cl)(a:dm)(h:Nat)(g:Wz)(m:Nat)(l:ui):U:=λc e d=>g5 u (Rz e (ad c 0) (cH d i 2) f k b.lp b.rb b.np h g m l) j a.rb a.UP a.np a.lp a.r c e d
theorem DA{b:dm}(l:lD k (az .tree) P)(s:ff P.r)(n:eQ P.lp (az .parent) b.rb)(p:er k ((P.np:Int)+1) (az .parent) b.rb b.UP b.np b.lp b.r)(m:zW u b.r (lq "invalid parent sha")):aI u (λω=>xy k a e f c v d L (λj=>.ref (j 4))):=by
 have q:aw u (λu=>[λg i h=>qH (Pm u) a,zQ u k (az .tree) P a e f c v d L,λg i h=>rI P.r (tk g 0) (lq "invalid tree sha") (tk g 1),RA u 2 k (az .tree) P (az .parent) b c v d L,λg i h=>tW b.r (tk g 0) (lq "invalid parent sha") (tk g 1)]):=⟨λg i h=>gv,mH l,λg i h=>(by obtain⟨⟨v,w,o⟩,t⟩:=s;exact nj o t),λg i h=>fT n p,λg i h=>m _ _,cg⟩
 exact oT 0x1000239f000220700f304444040420f03101123f55ff4bf10121f411f30cf106fb0011bb0b01bbb3601627310f0f09f111011111211001100f704f00110fd0fd00fd0101221110211 [[],[0,1,6,7,8],[],[5,6,4,13],[]] [2,1,0,19,20] (aE [163,195,179,0,227]) q (G:=[[],[0],[],[0],[]]) (Z:=g4 [314])
noncomputable def xz(b:cl)(f a:Nat)(c:Wz)(g:Nat)(e:ui):Spec:=
 F7 (.call (.ref 277) ⟨[.ref 888,.bytes b f],[]⟩) 260 [(393,ee a),(a,dq c cZ g e)] (.ref 44) (λd=>.ref (d 4))
noncomputable def RB(b:cl)(e:Nat)(c:Wz)(h:Nat)(g:ui)(f:AL->Wz):U:=λd a i=>xy b (ad d 0) (eJ a 0) (lk a 0 0) e c h g f
noncomputable def Gd:Nat:=0x1755f001555805f434f25980f0131ff805f2208f2310853f1f18f918f014014511f5551705f040000451000001111100010101211103112041130511
theorem p6{b:AL->Wz}(f:∀g e h,OK u (xy k g e h a v c L b)):aI u (λω=>xz k d a v c L):=
 oU Gd [[],[2,9,10]] [1,0,12,16] (aE [39,43,53,0,49]) ⟨jF,λi l j=>f _ _ _,cg⟩ (Y:=λu=>[tY (Pm u),RB k a v c L b]) (Z:=g4 [70])
noncomputable def NQ(a:Fin 6)(c:Nat):Spec:=⟨ul 627 [.int (aC a).2.1 c,.bool (aC a).2.2],40,none,UM [] (λω=>[]) (λω=>[]),λb ω=>uj (.bytes (aC a).1 (b 0))⟩
noncomputable def Qu:Nat:=0x100020ff001090af0207f90ef0100f302f011
theorem H2(b:Fin 6):OK u (NQ b a):=by
 refine Yv (Q:=λb=>aI u (λω=>NQ b a)) ?_ ?_ ?_ ?_ ?_ ?_ b
 ·exact oT Qu [] [] (aE [26]) trivial (Y:=λω=>[])
 ·exact oT 0x1000316f010910f040bf101a0ef0100f302f011 [] [] (aE [28]) trivial (Y:=λω=>[])
 ·exact oT Qu [] [] (aE [26]) trivial (Y:=λω=>[])
 ·exact oT 0x100030ff01080ff040bf101a0ef0100f302f011 [] [] (aE [28]) trivial (Y:=λω=>[])
 ·exact oT Qu [] [] (aE [26]) trivial (Y:=λω=>[])
 ·exact oT 0x1000316f041af626f211f61cf90ef0100f302f011 [] [] (aE [30]) trivial (Y:=λω=>[])
noncomputable def zX(f:cl)(d:Wy cl)(e:cl):U:=λa b g=>fh "bytes.join" [.bytes f (tk a 0),.ref (ad a 1)] [(ad a 1,cm ⟨d3 d (iB b 0)⟩ (eJ b 0))] λc=>.bytes e (c 0)
theorem rY(e:A≠[])(d:eI l A=k)(f:k.size<=16777216)(g:A.foldl (· + ·.size) (l.size*(A.length-1))<=16777216):∀a c b,OK u (zX l A k a c b):=λa c b=>bh e d f g
noncomputable def NR(b:Fin 3)(c:Fin 4)(a:Fin 6)(e g h d:Nat):Spec:=⟨ul 641 [.bytes (dv b) g,.int (dt.getD c.val 0) h,.ref e],60,none,UM [(e,eE #[.int (aC a).2.1 d,.bool (aC a).2.2])] (λω=>[eE #[.int (aC a).2.1 d,.bool (aC a).2.2]]) (λω=>[]),λf ω=>uj (.bytes (dk b c a) (f 0))⟩
theorem t0:∀(a:Fin 3) (b:Fin 4) (c:Fin 6),eI #[32] [dv a,xg b,(aC c).1]=dk a b c/\(dk a b c).size<=1000/\[dv a,xg b,(aC c).1].foldl (· + ·.size) 2<=1000:=by decide+kernel
noncomputable def Qv:Nat:=0x100214f129f22201210f09f1116f11131100144444004c02f11044010012
theorem p8{c:Fin 3}{b:Fin 4}{a:Fin 6}:aI u (λω=>NR c b a g d e f):=by
 obtain⟨j,m,k⟩:=t0 c b a;have h:aw u (λω=>[λi n l=>NQ a (tk i 0),zX #[32] [dv c,xg b,(aC a).1] (dk c b a)]):=⟨λi n l=>H2 a,rY (by simp) j (by lia) (Nat.le_trans k (by decide)),cg⟩
 clear j m k;revert h
 match b with
 |0=>exact λh=>oT Qv [[],[0]] [0] (aE [17]) h
 |1=>exact λh=>oT Qv [[],[0]] [0] (aE [17]) h
 |2=>exact λh=>oT Qv [[],[0]] [0] (aE [17]) h
 |3=>exact λh=>oT Qv [[],[0]] [0] (aE [17]) h
noncomputable def ow(a b:cl):cl:=eI #[32] [a,b]++ #[10]
noncomputable def Te(a b:cl)(d e:Nat):Spec:=⟨ul 214 [.bytes a d,.bytes b e],30,none,UM [] (λω=>[]) (λω=>[]),λc ω=>uj (.bytes (ow a b) (c 0))⟩
theorem NS(b:(eI #[32] [k,l]).size<=1000000)(d:k.size+l.size<=1000000):aI u (λω=>Te k l a c):=
 oT 0x1000111103f10012012 [[0],[]] [] (aE [9]) ⟨rY (by simp) rfl (by lia) (by simp;lia),eG (by refine(?_:_+1<=_);lia),cg⟩ (Y:=λω=>[zX #[32] [k,l] (eI #[32] [k,l]),je (eI #[32] [k,l]) #[10]])
section
open PySem.Calls
noncomputable def Tf(a:Wz):Spec:=⟨.call (.builtin "list.__new__") ⟨[.type "list",a],[]⟩,4,none,Qn [] (cm #[] 0),λb ω=>uj (.ref (b 0))⟩
variable {c:Nat->WA gi} {e:WG} {d:WJ}
theorem NT{a:Wz}:ct d e c (Tf a):=by
 intro k R h ok q p l b n;refine(?_:codeAny (model d e) k (.call (.builtin "list.__new__") ⟨[.type "list",a],[]⟩) R h);refine codeAny_mono (code_list_new a (Q₁:=λj f=>R (.ok (.ret j)) f) (E:=λi f=>R (.error i) f) ?_) λo f g=> ?_
 ·refine n (λω=>h.heap.objs.size) (λω=> #[]) _ (m1 (K:=c) (pre:=[]) ⟨b.pre,b.nd,b.UR,b.U6,b.UX⟩ l rfl ⟨h.toks,rfl⟩)
 ·cases o with
  |error i=>exact g
  |ok m=>cases m with
   |ret j=>exact g
   |_=>exact g.elim
noncomputable def Qx:TU:=λa c b=>Tf (((lW a)[1]?).getD .none)
theorem uy:∀a c b,OK u (Qx a c b):=λa c b=>NT
theorem fX:typeLookup (.type "slice") "__index__" =pure none:=hZ
noncomputable def EQ(b:WA Nat)(c:Nat):Wz:=match b with
 |none=>.none
 |some a=>.int (a:Nat) c
noncomputable def Pj(b a:Nat)(h i:ug)(e d:WA Nat)(c f g:Nat):Spec:=FP "list.__getitem__" [.ref b,.ref a] [(b,cm h c),(a,gB (EQ e f) (EQ d g))] (cm i 0)
theorem Bu(a:WA Nat)(b:Nat):FQ (EQ a b):=by
 cases a with
 |none=>exact .none
 |some c=>exact .int _ _
theorem c4(a b:Nat):max 0 (min (if((a:Nat):Int)<0 then((a:Nat):Int)+b else(a:Nat)) (b:Int))=((min a b:Nat):Int):=by
 rw[if_neg (Int.not_lt.mpr (Int.natCast_nonneg a))];rcases Nat.le_total a b with h|h
 ·rw[Nat.min_eq_left h,Int.min_eq_left (Int.ofNat_le.mpr h),Int.max_eq_right (Int.natCast_nonneg a)]
 ·rw[Nat.min_eq_right h,Int.min_eq_right (Int.ofNat_le.mpr h),Int.max_eq_right (Int.natCast_nonneg b)]
theorem ER(b:WA Nat)(d a:Nat):eW (EQ b d) a 0=((min (b.getD 0) a:Nat):Int):=by
 cases b with
 |none=>exact congrArg Nat.cast (Nat.zero_min a).symm
 |some c=>exact c4 c a
theorem ES(b:WA Nat)(d a:Nat):eW (EQ b d) a a=((min (b.getD a) a:Nat):Int):=by
 cases b with
 |none=>exact congrArg Nat.cast (Nat.min_self a).symm
 |some c=>exact c4 c a
theorem sG(a:ug)(b c:Nat):((a.toList.drop (min b a.size)).take (c-min b a.size)).toArray=a.extract b c:=by
 apply Array.ext';rw[Array.toList_extract];refine(?_:_=(a.toList.drop b).take (c-b));rcases Nat.le_total b a.size with h|h
 ·rw[Nat.min_eq_left h]
 ·rw[Nat.min_eq_right h,List.drop_eq_nil_of_le (as:=a.toList) (i:=a.size) (Nat.le_refl _),List.drop_eq_nil_of_le (as:=a.toList) (i:=b) h,List.take_nil,List.take_nil]
variable {b:ug}
theorem oG{c:Nat}(d:H.extract a c=b)(e:H.size<=1000000):b.size<=sizeLine:=by subst d;rw[Array.size_extract];exact Nat.le_trans (Nat.sub_le ..) (Nat.le_trans (Nat.min_le_right ..) (Nat.le_trans e (by decide)))
theorem hW{c:Model}{E:Wz->WF->Prop}{b:Wz×Wz×Wz->WF->Prop}(e:I.heap.get? a=some (gB x v))(g:FQ x)(f:FQ v)(d:b (G8 x,G8 v,.none) I):wpAny c F (Builtin.List.listSliceParts (.ref a)) b E I:=by unfold Builtin.List.listSliceParts;refine ci (wpAny_field e rfl rfl (ci (cj ?_)));rw[if_neg (by intro d;cases d)];exact ci (wpAny_field (i:=0) e rfl rfl (ci (vj g (ci (wpAny_field (i:=1) e rfl rfl (ci (vj f (cj d))))))))
theorem I3{lo hi:WA Nat}{t u:Nat}(l:H.extract (lo.getD 0) (min (hi.getD H.size) H.size)=b)(p:H.size<=1000000):ct d e c (Pj g a H b lo hi f t u):=
 vi (by decide+kernel) F.entry_list_getitem rfl λr h s E ω ω ω ω k o=>by
  have n:h.heap.get? g=some (cm H f):=k (g,cm H f) (.head _);have i:h.heap.get? a=some (gB (EQ lo t) (EQ hi u)):=k (a,gB (EQ lo t) (EQ hi u)) (.tail _ (.head _));have j:=iw (Bu lo t) (Bu hi u) H.size;rw[ER,ES]at j;have q:((sliceRange ((min (lo.getD 0) H.size:Nat):Int) ((min (hi.getD H.size) H.size:Nat):Int) 1).filterMap (H[·]?)).toArray=b:=by
   rw[sliceRange_one,pick_run,sG,l]
  refine(?_:wpAny _ _ (Builtin.List.listSubscript? (.ref a)>>=_) _ _ h);refine ci (ci (wpAny_specialOf (T:= "slice") ⟨_,i,rfl⟩ fX (cj (ci (m:=typeOf (.ref a)) (wpAny_typeOf (T:= "slice") ⟨_,i,rfl⟩ ?_)))));rw[if_neg (by decide+kernel)];refine ci (m:=Builtin.List.listSliceParts (.ref a)) (hW i (Bu lo t) (Bu hi u) (ci (wpAny_listItems n rfl (ci (wpAny_of_eq j ?_)))));dsimp only;rw[q];exact ci (wpAny_newObj_type (cj ⟨_,rfl,o h.toks⟩) (oG l p))
noncomputable def Tg(b a:Nat)(e f:ug)(c d:Nat):Spec:=FP "list.__getitem__" [.ref b,.ref a] [(b,cm e c),(a,gB (.int 1 d) .none)] (cm f 0)
theorem o1(j:H.extract 1 H.size=b)(i:H.size<=1000000):ct d e c (Tg g a H b f h):=
 I3 (lo:=some 1) (hi:=none) (u:=0) (by rw[show min ((none:WA Nat).getD H.size) H.size=H.size from Nat.min_self _];exact j) i
end
noncomputable def zZ(a:Nat):Env:=xi [40] (lq "_format_message.<locals>.") 405 404 a []
noncomputable def jl(a:Nat):Code:= .func ((inner (mj PW.main.body [40]))) (zZ a)
noncomputable def JV(b a:Nat):Code:=zk [40,0] b (zZ a)
noncomputable def RD:Stmt->Wy Stmt
 | .For _ _ a _ _=>a
 |_=>[]
noncomputable def xB(c a:Nat):Code:=match((RD (mj PW.main.body [40,0]))[2]?).getD (.Pass ⟨0,0,0,0⟩)with
 | .For e _ b d _=>.forLoop e (.ref c) b d (zZ a)
 |_=>.call .none ⟨[],[]⟩
inductive RE where
 |zero
 |one (f v:cl) (kf kv kl tf tv:Nat)
 |two (f v l:cl) (kf kv kl k tf tv t:Nat)
structure fB where
 ll:Nat
 F:RE
noncomputable def fz:fB:=⟨0,.zero⟩
noncomputable def RF(a:WC)(i:Nat):RE->Wy WL
 | .zero=>[]
 | .one b h c e d f g=>[dx a "field" c (.bytes b f),dx a "value" e (.bytes h g),dx a "lines" d (.ref i)]
 | .two b h k c e d j f g l=>[dx a "field" c (.bytes b f),dx a "value" e (.bytes h g),dx a "lines" d (.ref i),dx a "line" j (.bytes k l)]
noncomputable def RG:RE->Nat
 | .zero=>2
 | .one .. =>5
 | .two .. =>6
noncomputable def p9(b:WC)(d f e:Nat)(c:cl)(g:Nat)(a:fB):gi:=ot (dx b "headers" f (.ref d)::dx b "body" e (.bytes c g)::RF b a.ll a.F) (RG a.F)
structure ik where
 (L hl kh kb:Nat)
 body:cl
 tb:Nat
 xs:ug
 U3:Nat
noncomputable def r0(a:Wy aF):mw:=⟨a,[],nn,nn,nn,nn,[],nn⟩
noncomputable def NU(a:Nat):ik:=⟨a,100001,0,0,#[],0,#[],0⟩
noncomputable def H3(c:WG)(a:Nat):oq:=(⟨jl a,none,[],a,60,r0 [⟨a,p9 c.params 100001 0 0 #[] 0 fz,true⟩,⟨100001,cm #[] 0,false⟩],λω ω=>.ret (.ok .next)⟩,[],[λb e d=>bV (JV (be b) a) a])
noncomputable def mI(u:WB)(a:Nat):Wy WM:=pM (ke u (H3 (W2 u) a).1 ({n:=85,UT:=dc 0x11220121013,us:=[],ps:=[],ss:=[λb d c=>bV (JV (be b) a) a],U2:=[[]],UY:=[[]],U1:=[[]]}:fF) ⟨0,0,0,0⟩ (λω=>0) (λω=> #[]))
noncomputable def vJ(b c:cl)(e:Wy cl):U:=λa ω ω=>rk "bytes.split" [.bytes b (tk a 0),.bytes c (tk a 1)] [] λd=>cm ⟨d3 e d⟩ 0
noncomputable def NV(h:Wy cl)(b:Wy AL->AL)(e:Int)(d:cl)(f:Nat):U:=λa g c=>fh "list.__getitem__" [.ref (ad a 0),.int e (tk a 1)] [(ad a 0,cm ⟨d3 h (b c)⟩ (eJ g 0))] λω=>.bytes d (b c f)
noncomputable def vK(d:WC)(a:ik)(c:fB)(b e:Nat):Wy aF:=[⟨a.L,p9 d a.hl a.kh a.kb a.body a.tb c,true⟩,⟨b,dp a.hl b e,false⟩,⟨a.hl,cm a.xs a.U3,false⟩]
noncomputable def bW(d:ik)(i h f:Nat)(g k a:cl)(e:Wy cl):Wy U:=[λb j c=>xf i d.hl h d.xs d.U3 (.ref f),vJ k #[10] (a::e),NV (a::e) (λc=>cy (cH c 0)) 0 a 0,λb j c=>Te g a (tk b 0) (tk b 1)]
noncomputable def NW(e:WG)(a b c:Nat)(d:Wy WM):oq:=(⟨JV b a,none,d,a,60,⟨vK e.params (NU a) fz b 0,[],nn,nn,nn,nn,[⟨#[.ref c],[(#[],#[])]⟩],nn⟩,λω ω=>.ret (.ok .next)⟩,bW (NU a) b 0 c #[] #[] #[] [],[])
noncomputable def Tc:Nat:=0x1201222001f3e8e0000bf01f0af021cf1113e8e0110014444401255055111011201
noncomputable def km(u:WB)(a c:Nat):WA (End×St):=
 let b:=100007
 let d:=mI u a
 ke u (NW (W2 u) a c b d).1 ({n:=228,UT:=dc Tc,us:=(bW (NU a) c 0 b #[] #[] #[] []),ps:=[[1,2],[],[0],[]]}:fF) ⟨0,0,0,0⟩ (λω=>0) (λω=> #[])
noncomputable def qa(u:WB)(a b:Nat)(c:Wz):End:=aH (km u a b) c
noncomputable def Ge(d:Wy cl)(a:AL):U:=λb c e=>Tg (ad b 0) (ad b 1) ⟨d3 d a⟩ ⟨d3 d.tail (cy a)⟩ (eJ c 0) (df (ky c 1 0))
noncomputable def NX(f:WG)(u:WB)(a e c:Nat):oq:=let b:=qa u a e .none
 (⟨iW b,some (iV b (.send .none)),gc b,a,70,r0 [⟨a,p9 f.params 100001 0 0 #[] 0 ⟨c,.one #[] #[] 0 0 0 0 0⟩,true⟩,⟨c,cp [#[],#[]] (λω=>0) 0,false⟩],λω ω=>.ret (.ok .next)⟩,[Ge [#[],#[]] λω=>0],[λd h g=>bV (xB (be d) a) a])
noncomputable def Td:Nat:=0x1103330132110111013
noncomputable def qb(u:WB)(a c:Nat):Wy WM:=
 let d:=100008
 pM (ke u (NX (W2 u) u a c d).1 ({n:=104,UT:=dc Td,us:=[Ge [#[],#[]] λω=>0],ps:=[[2,0]],ss:=[λb f e=>bV (xB (be b) a) a],U2:=[[]],UY:=[[]],U1:=[[]]}:fF) ⟨0,0,0,0⟩ (λω=>0) (λω=> #[]))
noncomputable def kn(h:fB)(i:cl)(k j:Nat):fB:=⟨h.ll,match h.F with
 | .zero=>.zero
 | .one a g b d c e f=>.two a g i b d c k e f j
 | .two a g _ b d c l e f _=>.two a g i b d c l e f j⟩
noncomputable def nx(f:WC)(a:ik)(d:fB)(b c g:Nat)(h:Wy cl)(e:AL):Wy aF:=[⟨a.L,p9 f a.hl a.kh a.kb a.body a.tb d,true⟩,⟨b,dp c b g,false⟩,⟨c,cp h e 0,false⟩]
noncomputable def yg(a:cl):cl:=(#[32]++a)++ #[10]
noncomputable def vL(d f c:Nat)(e:Wy cl)(b:AL)(a:cl):Wy U:=[λg i h=>xf d f c ⟨d3 e b⟩ 0 (.bytes a (b c)),je #[32] a,je (#[32]++a) #[10]]
noncomputable def NY(d:WG)(u:WB)(a e b:Nat)(c:Wy WM):oq:=
 (⟨xB b a,none,c,a,60,r0 (nx d.params (NU a) ⟨0,.one #[] #[] 0 0 0 0 0⟩ b 100009 0 [#[]] λω=>0),λω ω=>.ret (.ok .next)⟩,vL b 100009 0 [#[]] (λω=>0) #[],[])
noncomputable def RC:Nat:=0x120122111012012
noncomputable def lE(u:WB)(a b c:Nat):WA (End×St):=
 let d:=qb u a b
 ke u (NY (W2 u) u a b c d).1 ({n:=101,UT:=dc RC,us:=(vL c 100009 0 [#[]] (λω=>0) #[]),ps:=[[1,2],[],[]]}:fF) ⟨0,0,0,0⟩ (λω=>0) (λω=> #[])
noncomputable def xC(u:WB)(a b c:Nat)(d:Wz):End:=aH (lE u a b c) d
noncomputable def NZ(c:WG)(u:WB)(a b:Nat):oq:=
 (⟨JV b a,none,mI u a,a,60,r0 (vK c.params (NU a) ⟨0,.one #[] #[] 0 0 0 0 0⟩ b 0),λω ω=>.ret (.ok .next)⟩,[λd f e=>jM b 100001 0 #[] 0],[])
noncomputable def lF(u:WB)(b:Nat):WA (End×St):=
 let a:=100010
 ke u (NZ (W2 u) u b a).1 ({n:=78,UT:=dc 0x12012210,us:=[λc e d=>jM a 100001 0 #[] 0],ps:=[[1,2]]}:fF) ⟨0,0,0,0⟩ (λω=>0) (λω=> #[])
noncomputable def uz(u:WB)(a:Nat)(b:Wz):End:=aH (lF u a) b
noncomputable def N0(c:WG)(u:WB)(a:Nat):oq:=let b:=uz u a .none
 (⟨iW b,some (iV b (.send .none)),gc b,a,70,r0 [⟨a,p9 c.params 100001 0 0 #[0] 0 ⟨0,.one #[] #[] 0 0 0 0 0⟩,true⟩],λω ω=>.ret (.ok .next)⟩,[fl #[0] 1],[])
noncomputable def ny(u:WB)(a:Nat):WA (End×St):=ke u (N0 (W2 u) u a).1 ({n:=76,UT:=[1,1,1],us:=[fl #[0] 1],ps:=[[]]}:fF) ⟨0,0,0,0⟩ (λω=>0) (λω=> #[])
noncomputable def N1(u:WB)(a:Nat)(b:Wz):End:=aH (ny u a) b
theorem lG(u:WB)(a b:Nat):qY (aH (km u a b) .none)=true:=by obtain⟨c,b1,b2⟩:=u;cases b1<;>kernel_rfl
theorem nz(u:WB)(a b c:Nat):qY (aH (lE u a b c) .none)=true:=by obtain⟨d,b1,b2⟩:=u;cases b1<;>kernel_rfl
theorem qc(u:WB)(a:Nat):qY (aH (lF u a) .none)=true:=by obtain⟨b,b1,b2⟩:=u;cases b1<;>kernel_rfl
theorem z0(u:WB)(a:Nat):qY (aH (ny u a) .none)=true:=by obtain⟨b,b1,b2⟩:=u;cases b1<;>kernel_rfl
theorem z3(u:WB)(a b:Nat):(aH (km u a b) .none).quiet=true:=by obtain⟨c,b1,b2⟩:=u;cases b1<;>kernel_rfl
theorem Gf(u:WB)(a b c:Nat):(aH (lE u a b c) .none).quiet=true:=by obtain⟨d,b1,b2⟩:=u;cases b1<;>kernel_rfl
theorem Gg(u:WB)(a:Nat):(aH (lF u a) .none).quiet=true:=by obtain⟨b,b1,b2⟩:=u;cases b1<;>kernel_rfl
theorem N5(u:WB)(a:Nat):(aH (ny u a) .none).quiet=true:=by obtain⟨b,b1,b2⟩:=u;cases b1<;>kernel_rfl
section
noncomputable def hj(g:fB)(b f:cl)(a:AL):fB:=⟨a 0,match g.F with
 | .zero=>.one b f (a 2) (a 3) (a 4) (a 5) (a 6)
 | .one _ _ c e d _ _=>.one b f c e d (a 5) (a 6)
 | .two _ _ i c e d h _ _ j=>.two b f i c e d h (a 5) (a 6) j⟩
noncomputable def jG(c:WC)(a:ik)(b:fB):gi:=p9 c a.hl a.kh a.kb a.body a.tb b
noncomputable def k6(a:Nat):gi:=dL "list_iterator" [.none,.int a 0]
structure RowW(h v l0:cl)(ls:Wy cl):Prop where
 split:gg v #[10] (v.size+1)=l0::ls
 sz:∀q∈l0::ls,q.size<=100000
 len:(l0::ls).length<=100000
 j:(eI #[32] [h,l0]).size<=1000000
 k:h.size+l0.size<=1000000
theorem iI(c:Wy cl)(b:AL)(a:Nat):(⟨d3 c b⟩:ug)[a]?=(c[a]?).map λd=>.bytes d (b a):=by rw[<-kK];simp
theorem uA(f:k.isEmpty=false)(d:gg l k (l.size+1)=A)(g:∀h∈A,h.size<=16777216)(e:A.length<=16777216):∀a c b,OK u (vJ l k A a c b):=λa c b=>xd f d g e
theorem DB{a:Wy AL->AL}{k:Nat}(e:A[k]?=some l)(f:k<=100000):∀b d c,OK u (NV A a (k:Nat) l k b d c):=λb d c=>dZ (by lia) (by lia) (by
 rw[Int.toNat_natCast,iI,e];rfl)
variable {o b:Nat} {a:ik}
theorem nA(h:a.xs[o]?=some (.ref b))(d:RowW m n l A):cq u (bW a c o b m n l A):=
 ⟨λe i f=>iy h,uA rfl d.split (λp g=>by have:=d.sz p g;lia) (by have:=d.len;lia),DB (k:=0) rfl (by lia),λe i f=>NS d.j d.k,cg⟩
noncomputable def uB(u:WB)(a:ik)(c f i:Nat)(e:fB)(d h g:cl)(j:Wy cl):Seg:=
 ⟨JV c a.L,none,mI u a.L,a.L,60,⟨vK (Pm u) a e c f,[],λb ω=>[jG (Pm u) a (hj e d h b),dp a.hl c (f+1:Nat),cm a.xs a.U3],nn,λb ω=>[⟨b 0,cp (g::j) (cn 8 b) 0,false⟩],nn,[⟨#[.ref i],[(d,h)]⟩],nn⟩,λb ω=>qa u a.L c (.bytes (ow d g) (b 1))⟩
noncomputable def z4(u:WB)(a:ik)(d:Nat)(b:fB):Seg:=
 ⟨JV d a.L,none,mI u a.L,a.L,60,⟨vK (Pm u) a b d a.xs.size,[],λc ω=>[jG (Pm u) a b,k6 a.xs.size,cm a.xs a.U3],nn,nn,nn,[],nn⟩,λc ω=>uz u a.L (.bytes #[10] (c 0))⟩
noncomputable def uC(u:WB)(a:ik)(g b j e:Nat)(i:Wy cl)(c:AL)(f:fB)(h:cl):Seg:=
 ⟨xB b a.L,none,qb u a.L g,a.L,60,⟨nx (Pm u) a f b j e i c,[],λd ω=>[jG (Pm u) a (kn f h (d 1) (c e)),dp j b (e+1:Nat),cp i c 0],nn,nn,nn,[],nn⟩,λd ω=>xC u a.L g b (.bytes (yg h) (d 0))⟩
noncomputable def nB(e:WC)(a:ik)(c:fB)(b f g j h:Nat)(i:Wy cl)(d:AL):Wy aF:=nx e a c g j h i d++[⟨b,dp a.hl b f,false⟩,⟨a.hl,cm a.xs a.U3,false⟩]
noncomputable def nC(u:WB)(a:ik)(c h l i n:Nat)(d:Wy cl)(g:AL)(f:fB)(e k j:cl)(m:Wy cl):Seg:=
 ⟨xB i a.L,none,qb u a.L c,a.L,60,⟨nB (Pm u) a f c h i n d.length d g,[],λb ω=>[jG (Pm u) a (hj f e k b),k6 d.length,cp d g 0,dp a.hl c (h+1:Nat),cm a.xs a.U3],nn,λb ω=>[⟨b 0,cp (j::m) (cn 8 b) 0,false⟩],nn,[⟨#[.ref l],[(e,k)]⟩],nn⟩,λb ω=>qa u a.L c (.bytes (ow e j) (b 1))⟩
noncomputable def nD(u:WB)(a:ik)(f g h:Nat)(b:Wy cl)(d:AL)(c:fB):Seg:=
 ⟨xB g a.L,none,qb u a.L f,a.L,60,⟨nB (Pm u) a c f a.xs.size g h b.length b d,[],λe ω=>[jG (Pm u) a c,k6 b.length,cp b d 0,k6 a.xs.size,cm a.xs a.U3],nn,nn,nn,[],nn⟩,λe ω=>uz u a.L (.bytes #[10] (e 0))⟩
noncomputable def uD(d:WC)(a:ik)(b:fB)(e:Wy cl)(c:AL):Wy aF:=[⟨a.L,p9 d a.hl a.kh a.kb a.body a.tb b,true⟩,⟨b.ll,cp e c 0,false⟩]
noncomputable def vM(u:WB)(c:ik)(h:Nat)(d:AL)(g:fB)(i b:cl)(e:Wy cl):Seg:=let f:=qa u c.L h .none
 ⟨iW f,some (iV f (.send .none)),gc f,c.L,70,⟨uD (Pm u) c g (i::b::e) d,[],λa ω=>[jG (Pm u) c (kn g b (a 1) (d 1)),cp (i::b::e) d 0],nn,λa ω=>[⟨a 2,dp (a 3) (a 2) 1,false⟩,⟨a 3,cp (b::e) (cy d) 0,false⟩],nn,[],nn⟩,λa ω=>xC u c.L h (a 2) (.bytes (yg b) (a 0))⟩
noncomputable def uE(e:WC)(a:ik)(c:fB)(b f:Nat)(g:Wy cl)(d:AL):Wy aF:=uD e a c g d++[⟨b,dp a.hl b f,false⟩,⟨a.hl,cm a.xs a.U3,false⟩]
noncomputable def vN(u:WB)(a:ik)(c h l:Nat)(g:AL)(f:fB)(i:cl)(d k j:cl)(m:Wy cl):Seg:=let e:=qa u a.L c .none
 ⟨iW e,some (iV e (.send .none)),gc e,a.L,70,⟨uE (Pm u) a f c h [i] g,[],λb ω=>[jG (Pm u) a (hj f d k b),cp [i] g 0,dp a.hl c (h+1:Nat),cm a.xs a.U3],nn,λb ω=>[⟨b 0,cp (j::m) (cn 8 b) 0,false⟩],nn,[⟨#[.ref l],[(d,k)]⟩],nn⟩,λb ω=>qa u a.L c (.bytes (ow d j) (b 1))⟩
noncomputable def vP(u:WB)(a:ik)(f:Nat)(d:AL)(c:fB)(g:cl):Seg:=let b:=qa u a.L f .none
 ⟨iW b,some (iV b (.send .none)),gc b,a.L,70,⟨uE (Pm u) a c f a.xs.size [g] d,[],λe ω=>[jG (Pm u) a c,cp [g] d 0,k6 a.xs.size,cm a.xs a.U3],nn,nn,nn,[],nn⟩,λe ω=>uz u a.L (.bytes #[10] (e 0))⟩
noncomputable def vQ(u:WB)(a:ik)(h b k e:Nat)(j:Wy cl)(c:AL)(g:fB)(i:cl):Seg:=let f:=xC u a.L h b .none
 ⟨iW f,some (iV f (.send .none)),gc f,a.L,70,⟨nx (Pm u) a g b k e j c,[],λd ω=>[jG (Pm u) a (kn g i (d 1) (c e)),dp k b (e+1:Nat),cp j c 0],nn,nn,nn,[],nn⟩,λd ω=>xC u a.L h b (.bytes (yg i) (d 0))⟩
noncomputable def vR(u:WB)(a:ik)(c i m j o:Nat)(d:Wy cl)(h:AL)(g:fB)(e l k:cl)(n:Wy cl):Seg:=let f:=xC u a.L c j .none
 ⟨iW f,some (iV f (.send .none)),gc f,a.L,70,⟨nB (Pm u) a g c i j o d.length d h,[],λb ω=>[jG (Pm u) a (hj g e l b),k6 d.length,cp d h 0,dp a.hl c (i+1:Nat),cm a.xs a.U3],nn,λb ω=>[⟨b 0,cp (k::n) (cn 8 b) 0,false⟩],nn,[⟨#[.ref m],[(e,l)]⟩],nn⟩,λb ω=>qa u a.L c (.bytes (ow e k) (b 1))⟩
noncomputable def vS(u:WB)(a:ik)(g h i:Nat)(b:Wy cl)(e:AL)(d:fB):Seg:=let c:=xC u a.L g h .none
 ⟨iW c,some (iV c (.send .none)),gc c,a.L,70,⟨nB (Pm u) a d g a.xs.size h i b.length b e,[],λf ω=>[jG (Pm u) a d,k6 b.length,cp b e 0,k6 a.xs.size,cm a.xs a.U3],nn,nn,nn,[],nn⟩,λf ω=>uz u a.L (.bytes #[10] (f 0))⟩
noncomputable def DC(u:WB)(a:ik)(c:fB):Seg:=let b:=uz u a.L .none
 ⟨iW b,some (iV b (.send .none)),gc b,a.L,70,⟨[⟨a.L,jG (Pm u) a c,true⟩],[],λd ω=>[jG (Pm u) a c],nn,nn,nn,[],nn⟩,λd ω=>N1 u a.L (.bytes a.body a.tb)⟩
noncomputable def z5(u:WB)(a:ik)(c:fB):Seg:=let b:=uz u a.L .none
 ⟨iW b,some (iV b (.send .none)),gc b,a.L,70,⟨[⟨a.L,jG (Pm u) a c,true⟩],[],λd ω=>[jG (Pm u) a c],nn,nn,nn,[],nn⟩,λd ω=>.ret (.ok (.ret .none))⟩
noncomputable def z6(u:WB)(a:ik)(c:fB):Seg:=let b:=N1 u a.L .none
 ⟨iW b,some (iV b (.send .none)),gc b,a.L,70,⟨[⟨a.L,jG (Pm u) a c,true⟩],[],λd ω=>[jG (Pm u) a c],nn,nn,nn,[],nn⟩,λd ω=>.ret (.ok (.ret .none))⟩
noncomputable def N6(u:WB)(a:ik)(f:Nat)(c e d:cl)(g:Wy cl):Seg:=
 ⟨jl a.L,none,[],a.L,80,⟨[⟨a.L,jG (Pm u) a fz,true⟩,⟨a.hl,cm a.xs a.U3,false⟩],[],λb ω=>[jG (Pm u) a (hj fz c e (cy b)),cm a.xs a.U3],nn,λb ω=>[⟨b 0,dp a.hl (b 0) 1,false⟩,⟨b 1,cp (d::g) (cn 9 b) 0,false⟩],nn,[⟨#[.ref f],[(c,e)]⟩],nn⟩,λb ω=>qa u a.L (b 0) (.bytes (ow c d) (b 2))⟩
noncomputable def dg(i:fB):Prop:=(∃a h b d c f g e,i=⟨e,.one a h b d c f g⟩)\/(∃a h k b d c j f g e l,i=⟨e,.two a h k b d c j f g l⟩)
theorem z7(i:a.xs[o]?=some (.ref b))(f:RowW m n l A):aO u (λu=>uB u a c o b ⟨d,.zero⟩ m n l A):=by
 have h:aw u (λω=>bW a c o b m n l A):=nA i f
 have g:aG u (λω=>[]):=cg
 exact sT Tc [[1,2],[],[0],[]] [2,1,0,6] (dT [55,69,49,51,57,27,35] λe=>dI (cn 27 (odd e))) h (O:=_) (Q:=g)
theorem z8{v1:cl}(s:a.xs[o]?=some (.ref b))(p:RowW m n l A):aO u (λu=>uB u a c o b ⟨d,.one k v1 e g f h i⟩ m n l A):=by
 have r:aw u (λω=>bW a c o b m n l A):=nA s p
 have q:aG u (λω=>[]):=cg
 exact sT Tc [[1,2],[],[0],[]] [2,1,0,6] (dT [55,69,0,0,0,27,35] λj=>dI (cn 27 (odd j))) r (O:=_) (Q:=q)
variable {r t:Nat} {s:cl}
theorem z9{v1:cl}(w:a.xs[o]?=some (.ref b))(p:RowW m n l A):aO u (λu=>uB u a c o b ⟨d,.two k v1 s e g f r h i t⟩ m n l A):=by
 have v:aw u (λω=>bW a c o b m n l A):=nA w p
 have q:aG u (λω=>[]):=cg
 exact sT Tc [[1,2],[],[0],[]] [2,1,0,6] (dT [55,69,0,0,0,27,35] λj=>dI (cn 27 (odd j))) v (O:=_) (Q:=q)
variable {d:fB}
theorem uF(f:a.xs[o]?=some (.ref b))(e:RowW m n l A):fj u (uB u a c o b d m n l A):=by
 obtain⟨g,d⟩:=d;cases d
 ·exact z7 f e
 ·exact z8 f e
 ·exact z9 f e
theorem uw{v1:cl}{d:Nat}:aO u (λu=>z4 u a c ⟨d,.one k v1 e g f h i⟩):=by
 have m:aw u (λω=>[λb n j=>jM c a.hl a.xs.size a.xs a.U3]):=⟨λb n j=>fP (by simp),cg⟩
 have l:aG u (λω=>[]):=cg
 exact sT 0x12012210 [[1,2]] [2,1,0] (aE [1]) m (O:=_) (Q:=l)
theorem DE{v1:cl}{d:Nat}:aO u (λu=>z4 u a c ⟨d,.two k v1 s e g f r h i t⟩):=by
 have m:aw u (λω=>[λb n j=>jM c a.hl a.xs.size a.xs a.U3]):=⟨λb n j=>fP (by simp),cg⟩
 have l:aG u (λω=>[]):=cg
 exact sT 0x12012210 [[1,2]] [2,1,0] (aE [1]) m (O:=_) (Q:=l)
theorem Aa(e:dg d):fj u (z4 u a c d):=by
 rcases e with⟨b,v1,f,h,g,j,k,i,rfl⟩|⟨b,v1,m,f,h,g,l,j,k,i,n,rfl⟩
 ·exact uw
 ·exact DE
variable {q:cl} {p:Nat}
theorem DF{v1:cl}{d:Nat}(l:C[b]?=some q)(s:q.size<=100000):aO u (λu=>uC u a c j p b C y ⟨d,.one k v1 e g f h i⟩ q):=by
 have n:aw u (λω=>vL j p b C y q):=⟨λo t r=>iy (by rw[iI,l];rfl),eG (by refine(?_:1+_<=_);lia),eG (by rw[Array.size_append];refine(?_:1+_+1<=_);lia),cg⟩
 have m:aG u (λω=>[]):=cg
 exact sT RC [[1,2],[],[]] [2,1,0] (aE [11,1]) n (O:=_) (Q:=m)
theorem DG{v1:cl}{d:Nat}(l:C[b]?=some q)(w:q.size<=100000):aO u (λu=>uC u a c j p b C y ⟨d,.two k v1 s e g f r h i t⟩ q):=by
 have n:aw u (λω=>vL j p b C y q):=⟨λo x v=>iy (by rw[iI,l];rfl),eG (by refine(?_:1+_<=_);lia),eG (by rw[Array.size_append];refine(?_:1+_+1<=_);lia),cg⟩
 have m:aG u (λω=>[]):=cg
 exact sT RC [[1,2],[],[]] [2,1,0] (aE [11]) n (O:=_) (Q:=m)
theorem qd(h:dg d)(e:C[b]?=some q)(f:q.size<=100000):fj u (uC u a c j p b C y d q):=by
 rcases h with⟨g,v1,i,l,k,n,o,m,rfl⟩|⟨g,v1,s,i,l,k,r,n,o,m,t,rfl⟩
 ·exact DF e f
 ·exact DG e f
theorem Ab{v1:cl}{d:Nat}(z:a.xs[o]?=some (.ref b))(v:RowW m n l A):aO u (λu=>nC u a c o b j p C y ⟨d,.one k v1 e g f h i⟩ m n l A):=by
 have x:aw u (λω=>[λq s r=>jM j p C.length ⟨d3 C y⟩ 0]):=⟨λq s r=>fP (by rw[iI];simp),cg⟩
 have w:aG u (λu=>[λq s r=>uB u a c o b ⟨d,.one k v1 e g f h i⟩ m n l A]):=⟨λq s r=>uF z v,cg⟩
 exact sT 0x120122101 [[1,2]] [4,3,2,1,0,7] (dT [] λt=>dI (odd t)) x (O:=_) (Q:=w) (M:=[[2,5,6]]) (N:=[[]]) (V:=[[.UO 0]])
theorem Ac{v1:cl}{d:Nat}(H:a.xs[o]?=some (.ref b))(z:RowW m n l A):aO u (λu=>nC u a c o b j p C y ⟨d,.two k v1 s e g f r h i t⟩ m n l A):=by
 have G:aw u (λω=>[λq w v=>jM j p C.length ⟨d3 C y⟩ 0]):=⟨λq w v=>fP (by rw[iI];simp),cg⟩
 have D:aG u (λu=>[λq w v=>uB u a c o b ⟨d,.two k v1 s e g f r h i t⟩ m n l A]):=⟨λq w v=>uF H z,cg⟩
 exact sT 0x120122101 [[1,2]] [4,3,2,1,0,7] (dT [] λx=>dI (odd x)) G (O:=_) (Q:=D) (M:=[[2,5,6]]) (N:=[[]]) (V:=[[.UO 0]])
theorem mJ(h:dg d)(f:a.xs[o]?=some (.ref b))(e:RowW m n l A):fj u (nC u a c o b j p C y d m n l A):=by
 rcases h with⟨g,v1,i,q,k,s,t,r,rfl⟩|⟨g,v1,w,i,q,k,v,s,t,r,x,rfl⟩
 ·exact Ab f e
 ·exact Ac f e
theorem Ad{v1:cl}{d:Nat}:aO u (λu=>nD u a c j p C y ⟨d,.one k v1 e g f h i⟩):=by
 have o:aw u (λω=>[λb m l=>jM j p C.length ⟨d3 C y⟩ 0]):=⟨λb m l=>fP (by rw[iI];simp),cg⟩
 have n:aG u (λu=>[λb m l=>z4 u a c ⟨d,.one k v1 e g f h i⟩]):=⟨λb m l=>Aa (.inl ⟨_,_,_,_,_,_,_,_,rfl⟩),cg⟩
 exact sT 0x120122101 [[1,2]] [4,3,2,1,0] (aE [1]) o (O:=_) (Q:=n) (M:=[[2,5,6]]) (N:=[[]]) (V:=[[]])
theorem Ae{v1:cl}{d:Nat}:aO u (λu=>nD u a c j p C y ⟨d,.two k v1 s e g f r h i t⟩):=by
 have o:aw u (λω=>[λb m l=>jM j p C.length ⟨d3 C y⟩ 0]):=⟨λb m l=>fP (by rw[iI];simp),cg⟩
 have n:aG u (λu=>[λb m l=>z4 u a c ⟨d,.two k v1 s e g f r h i t⟩]):=⟨λb m l=>Aa (.inr ⟨_,_,_,_,_,_,_,_,_,_,_,rfl⟩),cg⟩
 exact sT 0x120122101 [[1,2]] [4,3,2,1,0] (aE [1]) o (O:=_) (Q:=n) (M:=[[2,5,6]]) (N:=[[]]) (V:=[[]])
theorem mK(e:dg d):fj u (nD u a c j p C y d):=by
 rcases e with⟨b,v1,f,h,g,k,l,i,rfl⟩|⟨b,v1,n,f,h,g,m,k,l,i,o,rfl⟩
 ·exact Ad
 ·exact Ae
theorem Af{v1:cl}{d:Nat}(q:m.size<=100000)(r:(l::m::A).length<=100000):aO u (λu=>vM u a c y ⟨d,.one k v1 e g f h i⟩ l m A):=by
 have p:aw u (λω=>[Ge (l::m::A) y]):=⟨λb j n=>o1 (by simp[d3]) (by refine(?_:(d3 _ y).length<=_);rw[d8];lia),cg⟩
 have o:aG u (λu=>[λb j n=>uC u a c (be b) (hu (ky j 1 0)) 0 (m::A) (cy y) ⟨d,.one k v1 e g f h i⟩ m]):=⟨λb j n=>qd (.inl ⟨_,_,_,_,_,_,_,_,rfl⟩) rfl q,cg⟩
 exact sT Td [[2,0]] [1,0,4,3] (aE [5,9,3,2]) p (O:=_) (Q:=o) (M:=[[3,0,1]]) (N:=[[]]) (V:=[[]])
theorem Ag{v1:cl}{d:Nat}(q:m.size<=100000)(v:(l::m::A).length<=100000):aO u (λu=>vM u a c y ⟨d,.two k v1 s e g f r h i t⟩ l m A):=by
 have p:aw u (λω=>[Ge (l::m::A) y]):=⟨λb j n=>o1 (by simp[d3]) (by refine(?_:(d3 _ y).length<=_);rw[d8];lia),cg⟩
 have o:aG u (λu=>[λb j n=>uC u a c (be b) (hu (ky j 1 0)) 0 (m::A) (cy y) ⟨d,.two k v1 s e g f r h i t⟩ m]):=⟨λb j n=>qd (.inr ⟨_,_,_,_,_,_,_,_,_,_,_,rfl⟩) rfl q,cg⟩
 exact sT Td [[2,0]] [1,0,4,3] (aE [5,9,3,2]) p (O:=_) (Q:=o) (M:=[[3,0,1]]) (N:=[[]]) (V:=[[]])
theorem DH(g:dg d)(e:m.size<=100000)(b:(l::m::A).length<=100000):fj u (vM u a c y d l m A):=by
 rcases g with⟨f,v1,h,j,i,n,o,k,rfl⟩|⟨f,v1,q,h,j,i,p,n,o,k,r,rfl⟩
 ·exact Af e b
 ·exact Ag e b
theorem Ah{v1:cl}{d:Nat}(x:a.xs[o]?=some (.ref b))(t:RowW m n l A):aO u (λu=>vN u a c o b y ⟨d,.one k v1 e g f h i⟩ q m n l A):=by
 have w:aw u (λω=>[Ge [q] y]):=⟨λj p r=>o1 (by simp[d3]) (by refine(?_:1<=1000000);decide),cg⟩
 have v:aG u (λu=>[λj p r=>nC u a c o b (be j) (hu (ky p 1 0)) [] (cy y) ⟨d,.one k v1 e g f h i⟩ m n l A]):=⟨λj p r=>mJ (.inl ⟨_,_,_,_,_,_,_,_,rfl⟩) x t,cg⟩
 exact sT Td [[2,0]] [3,2,1,0,7] (dT [] λs=>dI (cn 1 (odd (cn 2 s)))) w (O:=_) (Q:=v) (M:=[[3,0,1,5,6]]) (N:=[[]]) (V:=[[.UO 0]])
theorem Ai{v1:cl}{d:Nat}(D:a.xs[o]?=some (.ref b))(x:RowW m n l A):aO u (λu=>vN u a c o b y ⟨d,.two k v1 s e g f r h i t⟩ q m n l A):=by
 have C:aw u (λω=>[Ge [q] y]):=⟨λj p v=>o1 (by simp[d3]) (by refine(?_:1<=1000000);decide),cg⟩
 have z:aG u (λu=>[λj p v=>nC u a c o b (be j) (hu (ky p 1 0)) [] (cy y) ⟨d,.two k v1 s e g f r h i t⟩ m n l A]):=⟨λj p v=>mJ (.inr ⟨_,_,_,_,_,_,_,_,_,_,_,rfl⟩) D x,cg⟩
 exact sT Td [[2,0]] [3,2,1,0,7] (dT [] λw=>dI (cn 1 (odd (cn 2 w)))) C (O:=_) (Q:=z) (M:=[[3,0,1,5,6]]) (N:=[[]]) (V:=[[.UO 0]])
theorem DI(h:dg d)(f:a.xs[o]?=some (.ref b))(e:RowW m n l A):fj u (vN u a c o b y d q m n l A):=by
 rcases h with⟨g,v1,i,k,j,r,s,p,rfl⟩|⟨g,v1,v,i,k,j,t,r,s,p,w,rfl⟩
 ·exact Ah f e
 ·exact Ai f e
theorem Aj{v1:cl}{d:Nat}:aO u (λu=>vP u a c y ⟨d,.one k v1 e g f h i⟩ q):=by
 have n:aw u (λω=>[Ge [q] y]):=⟨λb j l=>o1 (by simp[d3]) (by refine(?_:1<=1000000);decide),cg⟩
 have m:aG u (λu=>[λb j l=>nD u a c (be b) (hu (ky j 1 0)) [] (cy y) ⟨d,.one k v1 e g f h i⟩]):=⟨λb j l=>mK (.inl ⟨_,_,_,_,_,_,_,_,rfl⟩),cg⟩
 exact sT Td [[2,0]] [3,2,1,0] (aE [5]) n (O:=_) (Q:=m) (M:=[[3,0,1,5,6]]) (N:=[[]]) (V:=[[]])
theorem Ak{v1:cl}{d:Nat}:aO u (λu=>vP u a c y ⟨d,.two k v1 s e g f r h i t⟩ q):=by
 have n:aw u (λω=>[Ge [q] y]):=⟨λb j l=>o1 (by simp[d3]) (by refine(?_:1<=1000000);decide),cg⟩
 have m:aG u (λu=>[λb j l=>nD u a c (be b) (hu (ky j 1 0)) [] (cy y) ⟨d,.two k v1 s e g f r h i t⟩]):=⟨λb j l=>mK (.inr ⟨_,_,_,_,_,_,_,_,_,_,_,rfl⟩),cg⟩
 exact sT Td [[2,0]] [3,2,1,0] (aE [5]) n (O:=_) (Q:=m) (M:=[[3,0,1,5,6]]) (N:=[[]]) (V:=[[]])
theorem DJ(e:dg d):fj u (vP u a c y d q):=by
 rcases e with⟨b,v1,f,h,g,j,k,i,rfl⟩|⟨b,v1,m,f,h,g,l,j,k,i,n,rfl⟩
 ·exact Aj
 ·exact Ak
theorem s8{v1:cl}{d:Nat}(n:C[b]?=some q)(s:q.size<=100000):aO u (λu=>vQ u a c j p b C y ⟨d,.one k v1 e g f h i⟩ q):=by
 have r:aw u (λω=>[]):=cg
 have o:aG u (λu=>[λl t m=>uC u a c j p b C y ⟨d,.one k v1 e g f h i⟩ q]):=⟨λl t m=>qd (.inl ⟨_,_,_,_,_,_,_,_,rfl⟩) n s,cg⟩
 exact sT 0x11 [] [2,1,0] (aE [0,2]) r (O:=_) (Q:=o) (M:=[[0,1,2]]) (N:=[[]]) (V:=[[]])
theorem Am{v1:cl}{d:Nat}(n:C[b]?=some q)(w:q.size<=100000):aO u (λu=>vQ u a c j p b C y ⟨d,.two k v1 s e g f r h i t⟩ q):=by
 have v:aw u (λω=>[]):=cg
 have o:aG u (λu=>[λl x m=>uC u a c j p b C y ⟨d,.two k v1 s e g f r h i t⟩ q]):=⟨λl x m=>qd (.inr ⟨_,_,_,_,_,_,_,_,_,_,_,rfl⟩) n w,cg⟩
 exact sT 0x11 [] [2,1,0] (aE [0,2]) v (O:=_) (Q:=o) (M:=[[0,1,2]]) (N:=[[]]) (V:=[[]])
theorem DK(h:dg d)(e:C[b]?=some q)(f:q.size<=100000):fj u (vQ u a c j p b C y d q):=by
 rcases h with⟨g,v1,i,l,k,n,o,m,rfl⟩|⟨g,v1,s,i,l,k,r,n,o,m,t,rfl⟩
 ·exact s8 e f
 ·exact Am e f
theorem An{v1:cl}{d:Nat}(x:a.xs[o]?=some (.ref b))(t:RowW m n l A):aO u (λu=>vR u a c o b j p C y ⟨d,.one k v1 e g f h i⟩ m n l A):=by
 have w:aw u (λω=>[]):=cg
 have v:aG u (λu=>[λr z s=>nC u a c o b j p C y ⟨d,.one k v1 e g f h i⟩ m n l A]):=⟨λr z s=>mJ (.inl ⟨_,_,_,_,_,_,_,_,rfl⟩) x t,cg⟩
 exact sT 0x11 [] [4,3,2,1,0,5] (dT [] λq=>dI q) w (O:=_) (Q:=v) (M:=[[0,1,2,3,4]]) (N:=[[]]) (V:=[[.UO 0]])
theorem Ao{v1:cl}{d:Nat}(G:a.xs[o]?=some (.ref b))(x:RowW m n l A):aO u (λu=>vR u a c o b j p C y ⟨d,.two k v1 s e g f r h i t⟩ m n l A):=by
 have D:aw u (λω=>[]):=cg
 have z:aG u (λu=>[λv H w=>nC u a c o b j p C y ⟨d,.two k v1 s e g f r h i t⟩ m n l A]):=⟨λv H w=>mJ (.inr ⟨_,_,_,_,_,_,_,_,_,_,_,rfl⟩) G x,cg⟩
 exact sT 0x11 [] [4,3,2,1,0,5] (dT [] λq=>dI q) D (O:=_) (Q:=z) (M:=[[0,1,2,3,4]]) (N:=[[]]) (V:=[[.UO 0]])
theorem DL(h:dg d)(f:a.xs[o]?=some (.ref b))(e:RowW m n l A):fj u (vR u a c o b j p C y d m n l A):=by
 rcases h with⟨g,v1,i,q,k,s,t,r,rfl⟩|⟨g,v1,w,i,q,k,v,s,t,r,x,rfl⟩
 ·exact An f e
 ·exact Ao f e
theorem Ap{v1:cl}{d:Nat}:aO u (λu=>vS u a c j p C y ⟨d,.one k v1 e g f h i⟩):=by
 have n:aw u (λω=>[]):=cg
 have m:aG u (λu=>[λb o l=>nD u a c j p C y ⟨d,.one k v1 e g f h i⟩]):=⟨λb o l=>mK (.inl ⟨_,_,_,_,_,_,_,_,rfl⟩),cg⟩
 exact sT 0x11 [] [4,3,2,1,0] (aE [0]) n (O:=_) (Q:=m) (M:=[[0,1,2,3,4]]) (N:=[[]]) (V:=[[]])
theorem Aq{v1:cl}{d:Nat}:aO u (λu=>vS u a c j p C y ⟨d,.two k v1 s e g f r h i t⟩):=by
 have n:aw u (λω=>[]):=cg
 have m:aG u (λu=>[λb o l=>nD u a c j p C y ⟨d,.two k v1 s e g f r h i t⟩]):=⟨λb o l=>mK (.inr ⟨_,_,_,_,_,_,_,_,_,_,_,rfl⟩),cg⟩
 exact sT 0x11 [] [4,3,2,1,0] (aE [0]) n (O:=_) (Q:=m) (M:=[[0,1,2,3,4]]) (N:=[[]]) (V:=[[]])
theorem DM(e:dg d):fj u (vS u a c j p C y d):=by
 rcases e with⟨b,v1,f,h,g,k,l,i,rfl⟩|⟨b,v1,n,f,h,g,m,k,l,i,o,rfl⟩
 ·exact Ap
 ·exact Aq
theorem Ar{v1:cl}{d:Nat}(b:a.body.size=c+1)(o:a.body.size<=1000000):aO u (λu=>DC u a ⟨d,.one k v1 e g f h i⟩):=by
 have l:aw u (λω=>[fl a.body ((c+1:Nat):Int)]):=⟨λm p n=>aD (by rw[b]) (by lia),cg⟩
 have j:aG u (λω=>[]):=cg
 exact sT 0x1111 [[]] [0] (aE []) l (O:=_) (Q:=j)
theorem As{v1:cl}{d:Nat}(b:a.body.size=c+1)(o:a.body.size<=1000000):aO u (λu=>DC u a ⟨d,.two k v1 s e g f r h i t⟩):=by
 have l:aw u (λω=>[fl a.body ((c+1:Nat):Int)]):=⟨λm p n=>aD (by rw[b]) (by lia),cg⟩
 have j:aG u (λω=>[]):=cg
 exact sT 0x1111 [[]] [0] (aE []) l (O:=_) (Q:=j)
theorem DN(g:dg d)(e:a.body.size=c+1)(b:a.body.size<=1000000):fj u (DC u a d):=by
 rcases g with⟨f,v1,h,j,i,l,m,k,rfl⟩|⟨f,v1,o,h,j,i,n,l,m,k,p,rfl⟩
 ·exact Ar e b
 ·exact As e b
theorem At{v1:cl}{d:Nat}(b:a.body.size=0):aO u (λu=>z5 u a ⟨d,.one k v1 e g f h i⟩):=by
 have j:aw u (λω=>[fl a.body 0]):=⟨λl n m=>aD (by rw[b];rfl) (by lia),cg⟩
 have c:aG u (λω=>[]):=cg
 exact sT 0x111 [[]] [0] (aE []) j (O:=_) (Q:=c)
theorem Au{v1:cl}{d:Nat}(b:a.body.size=0):aO u (λu=>z5 u a ⟨d,.two k v1 s e g f r h i t⟩):=by
 have j:aw u (λω=>[fl a.body 0]):=⟨λl n m=>aD (by rw[b];rfl) (by lia),cg⟩
 have c:aG u (λω=>[]):=cg
 exact sT 0x111 [[]] [0] (aE []) j (O:=_) (Q:=c)
theorem DO(e:dg d)(b:a.body.size=0):fj u (z5 u a d):=by
 rcases e with⟨c,v1,f,h,g,j,k,i,rfl⟩|⟨c,v1,m,f,h,g,l,j,k,i,n,rfl⟩
 ·exact At b
 ·exact Au b
theorem Av{v1:cl}{d:Nat}:aO u (λu=>z6 u a ⟨d,.one k v1 e g f h i⟩):=by
 have c:aw u (λω=>[]):=cg
 have b:aG u (λω=>[]):=cg
 exact sT 0x1 [] [0] (aE []) c (O:=_) (Q:=b)
theorem Aw{v1:cl}{d:Nat}:aO u (λu=>z6 u a ⟨d,.two k v1 s e g f r h i t⟩):=by
 have c:aw u (λω=>[]):=cg
 have b:aG u (λω=>[]):=cg
 exact sT 0x1 [] [0] (aE []) c (O:=_) (Q:=b)
theorem DP(c:dg d):fj u (z6 u a d):=by
 rcases c with⟨b,v1,e,g,f,i,j,h,rfl⟩|⟨b,v1,l,e,g,f,k,i,j,h,m,rfl⟩
 ·exact Av
 ·exact Aw
theorem DQ(h:a.xs[0]?=some (.ref b))(f:RowW m n l A):aO u (λu=>N6 u a b m n l A):=by
 have g:aG u (λu=>[λc i e=>uB u a (be c) 0 b fz m n l A]):=⟨λc i e=>uF h f,cg⟩
 exact sT 0x11220121013 [] [1,0,2,3] (dT [0] λd=>dI (cn 1 d)) trivial (Y:=λω=>[]) (O:=_) (Q:=g) (M:=[[1,0,2]]) (N:=[[]]) (V:=[[.UO 0]])
end
section
noncomputable def Ax(d b:Nat)(e f:Wz)(h:WI)(i:AL->WI)(S:Seg)(g:AL->Wz):Spec:=⟨um "generator.__next__" [.ref d],S.dep+30,none,⟨⟨d,ey b e f,false⟩::S.UM.pre,(b,h)::S.UM.UR,λa c=>ey b e f::S.UM.post a c,λa c=>i a::S.UM.UQ a c,S.UM.new,S.UM.UW,S.UM.UX,S.UM.US⟩,λa ω=>uj (g a)⟩
theorem hN{a:WI}{S:Seg}{f:AL->Wz}(i:AL->WA (End×St))(o:fj u S)(n:bb a S)(l:∃j,(⟨S.fr,j,true⟩:aF)∈S.UM.pre/\ew j=true)(g:∀b,qY (aH (i b) .none)=true)(m:∀b,(aH (i b) .none).quiet=true)(h:∀b d,S.res b d=aH (i b) (f b)):OK u (Ax e c v x a (λb=>(aH (i b) .none).genState) S f):=by
 have k:OK u (yB e c v x a S):=l4 (gR _) o n l (λb d=>by rw[h,nr (g b)];exact m b) (λb d=>by rw[h];exact rL (g b))
 refine k.alt rfl rfl rfl rfl rfl rfl λb d=>⟨b,d, ?_,rfl, ?_,rfl,rfl,rfl⟩
 ·refine(?_:Except.ok (Flow.ret (yv (S.res b d)))=_);rw[h,j6 (g b)];rfl
 ·refine(?_:(S.res b d).genState::_=_);rw[h,rK (g b)];rfl
noncomputable def r2(u:WB)(a b:Nat):WI:=(aH (km u a b) .none).genState
noncomputable def uG(u:WB)(a b c:Nat):WI:=(aH (lE u a b c) .none).genState
noncomputable def r3(u:WB)(a:Nat):WI:=(aH (lF u a) .none).genState
noncomputable def DR(u:WB)(a:Nat):WI:=(aH (ny u a) .none).genState
noncomputable def Th(a b c d:Nat):AL:=λe=>match e with
 |0=>a
 |1=>b
 |2=>c
 |_=>d
theorem RH{F:AL}(b:A.length<=4):d3 A F=d3 A (Th (F 0) (F 1) (F 2) (F 3)):=bi _ _ _ λa c=>by
 match a,(show a<4 by lia)with
 |0,_=>rfl
 |1,_=>rfl
 |2,_=>rfl
 |3,_=>rfl
structure GN where
 (ga g:Nat)
 (nm qn:Wz)
noncomputable def GN.oo(a:GN):gi:=ey a.g a.nm a.qn
noncomputable def N7(a:AL):AL:=Th (a 7) (a 8) (a 9) (a 10)
noncomputable def N8(b:cl)(c:Wy cl)(a:AL):Wy aF:=[⟨a 0,cp (b::c) (N7 a) 0,false⟩]
noncomputable def N9(u:WB)(a:ik)(c:GN)(d i m:Nat)(h:AL)(f:fB)(j e l k:cl)(n:Wy cl):Spec:=
 ⟨um "generator.__next__" [.ref c.ga],100,none,⟨⟨c.ga,c.oo,false⟩::uE (Pm u) a f d i [j] h,[(c.g,r2 u a.L d)],λb ω=>[c.oo,jG (Pm u) a (hj f e l b),cp [j] h 0,dp a.hl d (i+1:Nat),cm a.xs a.U3],λω ω=>[r2 u a.L d],λb ω=>N8 k n b,nn,[⟨#[.ref m],[(e,l)]⟩],nn⟩,λb ω=>uj (.bytes (ow e k) (b 1))⟩
theorem mb(b:fB)(c d:cl)(a:AL):hj b c d a=hj b c d (cons (a 0) (cons (a 1) (cons (a 2) (cons (a 3) (cons (a 4) (cons (a 5) (cons (a 6) (cons (a 8) (cons (a 9) (cons (a 10) (cons (a 11) a))))))))))):=by obtain⟨e,b⟩:=b;cases b<;>rfl
theorem uH{al:AL}(a:(k::A).length<=4):[(⟨al 0,cp (k::A) (cn 8 al) 0,false⟩:aF)]=N8 k A (cons (al 0) (cons (al 1) (cons (al 2) (cons (al 3) (cons (al 4) (cons (al 5) (cons (al 6) (cons (al 8) (cons (al 9) (cons (al 10) (cons (al 11) al))))))))))):=by unfold N8 cp;rw[RH (F:=cn 8 al) a];rfl
variable {f:cl} {d:fB} {b:GN} {a:ik}
theorem DS(i:dg d)(r:a.xs[j]?=some (.ref e))(q:RowW l f k A)(p:(k::A).length<=4):OK u (N9 u a b c j e y d m l f k A):=by
 have o:OK u (Ax b.ga b.g b.nm b.qn (r2 u a.L c) _ (vN u a c j e y d m l f k A) λh=>.bytes (ow l k) (h 1)):=hN (λω=>km u a.L c) (DI i r q) (dX (lG u a.L c) rfl rfl rfl) ⟨_,.head _,by rcases i with⟨_,_,_,_,_,_,_,_,rfl⟩|⟨_,_,_,_,_,_,_,_,_,_,_,rfl⟩<;>rfl⟩ (λω=>lG u a.L c) (λω=>z3 u a.L c) λh n=>rfl
 refine o.alt rfl rfl rfl rfl rfl rfl λh n=>⟨cons (h 0) (cons (h 1) (cons (h 2) (cons (h 3) (cons (h 4) (cons (h 5) (cons (h 6) (cons (h 8) (cons (h 9) (cons (h 10) (cons (h 11) h)))))))))),n,rfl, ?_,rfl,uH p,rfl,rfl⟩
 refine(?_:[_,_,_,_,_]=[_,_,_,_,_]);rw[mb];rfl
noncomputable def Oa(u:WB)(a:ik)(c:GN)(d j n k p:Nat)(e:Wy cl)(i:AL)(h:fB)(f m l:cl)(o:Wy cl):Spec:=
 ⟨um "generator.__next__" [.ref c.ga],100,none,⟨⟨c.ga,c.oo,false⟩::nB (Pm u) a h d j k p e.length e i,[(c.g,uG u a.L d k)],λb ω=>[c.oo,jG (Pm u) a (hj h f m b),k6 e.length,cp e i 0,dp a.hl d (j+1:Nat),cm a.xs a.U3],λω ω=>[r2 u a.L d],λb ω=>N8 l o b,nn,[⟨#[.ref n],[(f,m)]⟩],nn⟩,λb ω=>uj (.bytes (ow f l) (b 1))⟩
theorem DT(n:dg d)(r:a.xs[j]?=some (.ref e))(q:RowW l f k A)(p:(k::A).length<=4):OK u (Oa u a b c j e h i C y d l f k A):=by
 have o:OK u (Ax b.ga b.g b.nm b.qn (uG u a.L c h) _ (vR u a c j e h i C y d l f k A) λm=>.bytes (ow l k) (m 1)):=hN (λω=>km u a.L c) (DL n r q) (dX (nz u a.L c h) rfl rfl rfl) ⟨_,.head _,by rcases n with⟨_,_,_,_,_,_,_,_,rfl⟩|⟨_,_,_,_,_,_,_,_,_,_,_,rfl⟩<;>rfl⟩ (λω=>lG u a.L c) (λω=>z3 u a.L c) λm i=>rfl
 refine o.alt rfl rfl rfl rfl rfl rfl λm i=>⟨cons (m 0) (cons (m 1) (cons (m 2) (cons (m 3) (cons (m 4) (cons (m 5) (cons (m 6) (cons (m 8) (cons (m 9) (cons (m 10) (cons (m 11) m)))))))))),i,rfl, ?_,rfl,uH p,rfl,rfl⟩
 refine(?_:[_,_,_,_,_,_]=[_,_,_,_,_,_]);rw[mb];rfl
noncomputable def Ob(u:WB)(a:ik)(c:GN)(h:Nat)(d f e:cl)(i:Wy cl):Spec:=
 ⟨um "generator.__next__" [.ref c.ga],110,none,⟨[⟨c.ga,c.oo,false⟩,⟨a.L,jG (Pm u) a fz,true⟩,⟨a.hl,cm a.xs a.U3,false⟩],[(c.g,.fresh (jl a.L))],λb ω=>[c.oo,jG (Pm u) a (hj fz d f (cy b)),cm a.xs a.U3],λb ω=>[r2 u a.L (b 0)],λb ω=>⟨b 0,dp a.hl (b 0) 1,false⟩::N8 e i (cy b),nn,[⟨#[.ref h],[(d,f)]⟩],nn⟩,λb ω=>uj (.bytes (ow d e) (b 2))⟩
theorem DU(m:a.xs[0]?=some (.ref e))(j:RowW l f k A)(i:(k::A).length<=4):OK u (Ob u a b e l f k A):=by
 have h:OK u (Ax b.ga b.g b.nm b.qn (.fresh (jl a.L)) _ (N6 u a e l f k A) λc=>.bytes (ow l k) (c 2)):=hN (λc=>km u a.L (c 0)) (DQ m j) (.inl ⟨rfl,rfl,rfl⟩) ⟨_,.head _,rfl⟩ (λc=>lG u a.L (c 0)) (λc=>z3 u a.L (c 0)) λc d=>rfl
 refine h.alt rfl rfl rfl rfl rfl rfl λc d=>⟨cons (c 0) (cons (c 1) (cons (c 2) (cons (c 3) (cons (c 4) (cons (c 5) (cons (c 6) (cons (c 7) (cons (c 9) (cons (c 10) (cons (c 11) (cons (c 12) c))))))))))),d,rfl,rfl,rfl, ?_,rfl,rfl⟩
 have:=uH (al:=cy c) i;exact congrArg (List.cons _) this
noncomputable def Oc(u:WB)(d:ik)(a:GN)(c:Nat)(h:AL)(f:fB)(i e:cl)(j:Wy cl):Spec:=Ax a.ga a.g a.nm a.qn (r2 u d.L c) (λb=>uG u d.L c (b 2)) (vM u d c h f i e j) λb=>.bytes (yg e) (b 0)
theorem fu{b:WC}(c:dg d):ew (p9 b a.hl a.kh a.kb a.body a.tb d)=true:=by rcases c with⟨_,_,_,_,_,_,_,_,rfl⟩|⟨_,_,_,_,_,_,_,_,_,_,_,rfl⟩<;>rfl
theorem DV(f:dg d)(h:l.size<=100000)(g:(k::l::A).length<=100000):OK u (Oc u a b c y d k l A):=
 hN (λe=>lE u a.L c (e 2)) (DH f h g) (dX (lG u a.L c) rfl rfl rfl) ⟨_,.head _,fu f⟩ (λe=>nz u a.L c (e 2)) (λe=>Gf u a.L c (e 2)) λe i=>rfl
noncomputable def Od(u:WB)(b:ik)(a:GN)(d:Nat)(f:AL)(e:fB)(h:cl):Spec:=Ax a.ga a.g a.nm a.qn (r2 u b.L d) (λc=>r3 u b.L) (vP u b d f e h) λc=>.bytes #[10] (c 0)
theorem DW(f:dg d):OK u (Od u a b c y d m):=
 hN (λe=>lF u a.L) (DJ f) (dX (lG u a.L c) rfl rfl rfl) ⟨_,.head _,fu f⟩ (λe=>qc u a.L) (λe=>Gg u a.L) λe g=>rfl
noncomputable def Oe(u:WB)(d:ik)(a:GN)(b c l j:Nat)(k:Wy cl)(i:AL)(h:fB)(f:cl):Spec:=Ax a.ga a.g a.nm a.qn (uG u d.L b c) (λe=>uG u d.L b c) (vQ u d b c l j k i h f) λe=>.bytes (yg f) (e 0)
theorem DX(g:dg d)(j:C[e]?=some m)(k:m.size<=100000):OK u (Oe u a b c h i e C y d m):=
 hN (λf=>lE u a.L c h) (DK g j k) (dX (nz u a.L c h) rfl rfl rfl) ⟨_,.head _,fu g⟩ (λf=>nz u a.L c h) (λf=>Gf u a.L c h) λf i=>rfl
noncomputable def Of(u:WB)(b:ik)(a:GN)(d e j:Nat)(i:Wy cl)(h:AL)(f:fB):Spec:=Ax a.ga a.g a.nm a.qn (uG u b.L d e) (λc=>r3 u b.L) (vS u b d e j i h f) λc=>.bytes #[10] (c 0)
theorem DY(f:dg d):OK u (Of u a b c h i C y d):=
 hN (λe=>lF u a.L) (DM f) (dX (nz u a.L c h) rfl rfl rfl) ⟨_,.head _,fu f⟩ (λe=>qc u a.L) (λe=>Gg u a.L) λe i=>rfl
noncomputable def Ti(u:WB)(a:ik)(b:GN)(c:fB):Spec:=Ax b.ga b.g b.nm b.qn (r3 u a.L) (λd=>DR u a.L) (DC u a c) λd=>.bytes a.body a.tb
theorem H6(f:dg d)(h:a.body.size=c+1)(g:a.body.size<=1000000):OK u (Ti u a b d):=
 hN (λe=>ny u a.L) (DN f h g) (dX (qc u a.L) rfl rfl rfl) ⟨_,.head _,fu f⟩ (λe=>z0 u a.L) (λe=>N5 u a.L) λe i=>rfl
theorem H7(c:dg d)(e:a.body.size=0):OK u (hy b.ga b.g b.nm b.qn (r3 u a.L) (z5 u a d)):=
 j9 (gR _) (DO c e) (dX (qc u a.L) rfl rfl rfl) ⟨_,.head _,fu c⟩ λf h=>rfl
theorem H8(c:dg d):OK u (hy b.ga b.g b.nm b.qn (DR u a.L) (z6 u a d)):=
 j9 (gR _) (DP c) (dX (z0 u a.L) rfl rfl rfl) ⟨_,.head _,fu c⟩ λe f=>rfl
end
section
open PySem.Calls
section
variable {R:Type}
noncomputable def XA(c d:Nat)(e f:gi):aJ R Unit:=λg a=>ob (cellAt a.led c) λb=>gt (bL b.fr) (g () ⟨da a.led c f,a.gl,a.al,a.sl,a.UT,a.use,a.UN,a.bl,.n b.addr d:: .o b.obj e::a.lg⟩)
noncomputable def XB(e:Nat)(b f:Nat)(d:Wz)(a:ug)(c:Nat)(h:WA Wz):aJ R WH:=match h with
 |none=>cR (.ok (.ret d))
 |some i=>cB cJ λg=>cB (XA g b (cm a c) (cm (a.push i) (c+1))) λω=>f9 e ⟨none,none⟩ (.builtin "list.extend.loop" ⟨[.ref b,.ref f,d],[]⟩)
noncomputable def RI(g:Wz->Sem (WA Wz))(f:IH R)(a:Nat)(d b:Nat)(h:Wz)(c:ug)(e:Nat):aJ R WH:=cB (cK (f.t a ⟨none,none⟩ (g (.ref b)))) (XB a d b h c e)
end
noncomputable def jO(S:Spec):ug:=match S.UM.pre with
 |c::_=>(match c.obj.data with| .seq a _=>a|_=> #[])
 |[]=> #[]
noncomputable def mq(S:Spec):Nat:=match S.UM.pre with
 |c::_=>(match c.obj.data with| .seq _ a=>a|_=>0)
 |[]=>0
noncomputable def uI(c:Code):Wz:=((lW c)[2]?).getD .none
theorem ox:entryFor table "list.extend.loop" =some Builtin.«list.extend.loop»:=entryFor_of_tree (by kernel_rfl)
noncomputable def b4(a:WB)(S:Spec):aJ (WH×St) WH:=RI PySem.W.Fast.tw9404975358583537561 (sC a) S.dep (ad S.code 0) (ad S.code 1) (uI S.code) (jO S) (mq S)
section
variable {R0:Type} {P:WJ} {w:WG} {K:Nat->WA gi} {F:R0->St->Prop} {Fm:Wy Env}
theorem ax.ls{a b:gi}(A:b.isFreed=false)(C:kF a b):ax P w K F Fm (XA d c a b) λR i=>i.heap.get? c=some a/\∀f,f a=b->R () {i with heap:=i.heap.update c f}:=
 ⟨λs k e J h=>by
  obtain⟨o,_,h⟩:=aM h;exact λG D=>k _ _ _ (aQ h).2 G (.tail _ (.tail _ D)),λs I e i R k g l y=>by
  obtain⟨⟨ad,ob,z⟩,p,g⟩:=Good.opt (x:=cellAt e.led d) g;have q:=bB l.rep p;cases z with
  |true=>exact(g e.al e.sl).none
  |false=>
   have m:Al F (s ()) ⟨da e.led d b,e.gl,e.al,e.sl,e.UT,e.use,e.UN,e.bl,.n ad c:: .o ob a::e.lg⟩:=g;have r:=m.YN (k _);have t:ad=c:=r _ (.head _);have v:ob=a:=r _ (.tail _ (.head _));subst t v;refine⟨q,λf j=> ?_⟩
   subst j;obtain⟨H,o⟩:=gm (f:=f) (o':=f ob) (st1:=⟨da e.led d (f ob),e.gl,e.al,e.sl,e.UT,e.use,e.UN,e.bl,.n ad ad:: .o ob ob::e.lg⟩) l.rep p q A (λh j=>j) C rfl rfl rfl rfl
   exact y _ _ _ m (l.next H o)⟩
theorem ax.ext{a:WK}(o:a.frames=some Fm)(p:MV a d ⟨none,none⟩)(k:H.size<=1000000):∀l,ax P w K F Fm (XB d c e v H f l) λR i=>wpAny (model P w) a.in1 (match l with
  |none=>pure (.done (.ret v))
  |some m=>updateSeq c (·.push m)>>=λω=>again (.builtin "list.extend.loop" ⟨[.ref c,.ref e,v],[]⟩)) (λh g=>match h with
  | .done h=>R (.ok h) g
  | .again j=>j.quiet=true/\codeAny (model P w) a j R g) (λn g=>R (.error n) g) i
 |none=>ax.ret.mono λR i b=>cj b
 |some m=>.YM λq=>((ax.ls rfl (g0 _ _ _ rfl)).YI λω=>ax.YO o p).mono λR i b=>by
  refine ci (wpAny_updateSeq b.1 rfl ?_ (Nat.le_trans k (by decide)) (by refine(?_:(Array.push _ _).size<=_);rw[Array.size_push];exact Nat.succ_le_succ (Nat.le_trans k (by decide))));exact cj ⟨by kernel_rfl,b.2 _ (gQ _ _ _)⟩
end
theorem o4{a:WB}{S:Spec}(h:(jO S).size<=1000000)(i:S.code= .builtin "list.extend.loop" ⟨[.ref (ad S.code 0),.ref (ad S.code 1),uI S.code],[]⟩)(j:S.top=none)(b:WK)(c:Wy Env)(g:WH->St->Prop)(f:b.frames=some c)(e:MV b S.dep ⟨none,S.top⟩):ax PW (W2 a) (KB (W2 a)) g c (b4 a S) (runC (model PW (W2 a)) b S.code):=by
 unfold b4;rw[<-PySem.W.Fast.te9404975358583537561];rw[j]at e;refine(((hU a).1 _ _ (pyNext (.ref (ad S.code 1))) b.in1 c f (Xw e)).YK.YI (ax.ext f e h)).mono λR n d=> ?_
 rw[i];refine dY (A:=b) (id:= "list.extend.loop") (by decide+kernel) ox ?_;refine ci (m:=pyNext (.ref (ad S.code 1))) (wpAny_mono (aL d) (λk o d=> ?_) λω ω l=>l.elim)
 cases k<;>exact d
end
section
open PySem.Calls
theorem xT{a:WB}{S:WB->Spec}{b:WB->Wy TU}(h:Nat)(i:Wy (uh))(l:uh)(k:AL->SL->AL)(n:aw a b)(m:(jO (S a)).size<=1000000)(G:Wy (uh):=[])(J:Wy (Wy f8):=[])(I:uh:=[])(R:Wy f8:=[])(j:AL->SL->SL:=g4 [])(d:WB->Wy TG:=λω=>[])(e f:Wy (uh):=[])(g:Wy (Wy f8):=[])(Q:aG a d)
 (H:RL b4 Spec.UM (λc=>S (vB a c)) (λc=>⟨0,dc h,b (vB a c),i,G,J,d (vB a c),e,f,g⟩) l I R (vB a)=RR b4 Spec.UM Spec.res (λc=>S (vB a c)) (λc=>⟨0,dc h,b (vB a c),i,G,J,d (vB a c),e,f,g⟩) k j (vB a))
 (hc:(S a).code= .builtin "list.extend.loop" ⟨[.ref (ad (S a).code 0),.ref (ad (S a).code 1),uI (S a).code],[]⟩)(ht:(S a).top=none):aI a S:=
 bK (v:=vB a) (S:=(λc=>S (vB a c))) (λc=>⟨0,dc h,b (vB a c),i,G,J,d (vB a c),e,f,g⟩) l I R k j a.b1 n Q H (o4 m hc ht)
end
section
inductive Ev where
 |cont (l:cl)
 |row (h v l0:cl) (ls:Wy cl)
noncomputable def xE:fB->AL->Nat->Wy Ev->AL->fB
 |F,_,_,[],_=>F
 |F,c,d,.cont f::b,a=>xE (kn F f (a 1) (c d)) c (d+1) b (cn 4 a)
 |F,_,_,.row e g h i::b,a=>xE (hj F e g a) (cy (N7 a)) 0 b (cn 11 a)
noncomputable def Ay(a:ug)(b:cl)(c:Nat):ug:=match b.size with
 |0=>a
 |_+1=>a.push (.bytes b c)
noncomputable def r4(b:cl)(d:Nat):ug->Wy Ev->AL->ug
 |A,[],a=>Ay (A.push (.bytes #[10] (a 0))) b d
 |A,.cont f::c,a=>r4 b d (A.push (.bytes (yg f) (a 0))) c (cn 4 a)
 |A,.row e i g h::c,a=>r4 b d (A.push (.bytes (ow e g) (a 1))) c (cn 11 a)
noncomputable def Qy(a:Nat)(b:cl):Nat:=match b.size with
 |0=>a
 |_+1=>a+1
noncomputable def bX(b:cl):Nat->Wy Ev->Nat
 |a,[]=>Qy (a+1) b
 |a,_::c=>bX b (a+1) c
noncomputable def xF(a b:Nat):Code:= .builtin "list.extend.loop" ⟨[.ref a,.ref b,.none],[]⟩
structure LP where
 p:ik
 y:GN
 acc:Nat
 A:ug
 ep:Nat
 R:Wy dh
 it:Nat
noncomputable def LP.push(a:LP)(b:Wz):LP:={a with A:=a.A.push b,ep:=a.ep+1}
noncomputable def LP.VN(a:LP):Wy aF:=[⟨a.acc,cm a.A a.ep,false⟩,⟨a.y.ga,a.y.oo,false⟩]
noncomputable def LP.Wf(a:LP)(b:Nat):Wy aF:=[⟨a.it,dp a.p.hl a.it b,false⟩,⟨a.p.hl,cm a.p.xs a.p.U3,false⟩]
noncomputable def LP.postA(a:LP)(b:Wy Ev)(c:AL):uk:=[cm (r4 a.p.body a.p.tb a.A b c) (bX a.p.body a.ep b),a.y.oo]
noncomputable def LP.VS(a:LP):uk:=[k6 a.p.xs.size,cm a.p.xs a.p.U3]
noncomputable def oy(u:WB)(a:LP)(h:Nat)(c:fB)(f:Wy cl)(b:AL)(e:Wy Ev):Spec:=
 ⟨xF a.acc a.y.ga,130,none,⟨a.VN++(uD (Pm u) a.p c f b++a.Wf h),[(a.y.g,r2 u a.p.L a.it)],λd ω=>a.postA e d++([jG (Pm u) a.p (xE c (cy b) 0 e d),cp f b 0]++a.VS),λω ω=>[.finished],nn,nn,[⟨a.p.xs,a.R⟩],nn⟩,λω ω=>uj .none⟩
noncomputable def r5(u:WB)(a:LP)(j:Nat)(d:fB)(h k i:Nat)(c:Wy cl)(b:AL)(f:Wy Ev):Spec:=
 ⟨xF a.acc a.y.ga,130,none,⟨a.VN++(nx (Pm u) a.p d h k i c b++a.Wf j),[(a.y.g,uG u a.p.L a.it h)],λe ω=>a.postA f e++([jG (Pm u) a.p (xE d b i f e),k6 c.length,cp c b 0]++a.VS),λω ω=>[.finished],nn,nn,[⟨a.p.xs,a.R⟩],nn⟩,λω ω=>uj .none⟩
noncomputable def LP.VO(c:WC)(a:LP)(b:fB):Wy aF:=a.VN++[⟨a.p.L,jG c a.p b,true⟩]
noncomputable def H9(u:WB)(a:LP)(b:fB):Spec:=
 ⟨xF a.acc a.y.ga,130,none,⟨a.VO (Pm u) b,[(a.y.g,r3 u a.p.L)],λc ω=>[cm (Ay a.A a.p.body a.p.tb) (Qy a.ep a.p.body),a.y.oo,jG (Pm u) a.p b],λω ω=>[.finished],nn,nn,[],nn⟩,λω ω=>uj .none⟩
noncomputable def Oh(u:WB)(a:LP)(b:fB):Spec:=
 ⟨xF a.acc a.y.ga,130,none,⟨a.VO (Pm u) b,[(a.y.g,DR u a.p.L)],λc ω=>[cm a.A a.ep,a.y.oo,jG (Pm u) a.p b],λω ω=>[.finished],nn,nn,[],nn⟩,λω ω=>uj .none⟩
variable {b:fB} {a:LP}
theorem Ia(f:dg b)(e:a.A.size<=1000000):aI u (λu=>Oh u a b):=by
 have h:aw u (λu=>[λc i d=>hy a.y.ga a.y.g a.y.nm a.y.qn (DR u a.p.L) (z6 u a.p b)]):=⟨λc i d=>H8 f,cg⟩
 exact xT 0x1201221 [[1,2]] [2,1,0] (aE []) h e (G:=[[0]]) (I:=[0]) (Q:=trivial) (H:=by kernel_rfl) (hc:=rfl) (ht:=rfl)
noncomputable def Oi(u:WB)(a:LP)(b:fB):Spec:=
 ⟨xF a.acc a.y.ga,130,none,⟨a.VO (Pm u) b,[(a.y.g,r3 u a.p.L)],λc ω=>[cm (a.A.push (.bytes a.p.body a.p.tb)) (a.ep+1),a.y.oo,jG (Pm u) a.p b],λω ω=>[.finished],nn,nn,[],nn⟩,λω ω=>uj .none⟩
theorem DZ{n:Nat}(f:dg b)(i:a.p.body.size=n+1)(h:a.p.body.size<=1000000)(g:a.A.size<1000000):aI u (λu=>Oi u a b):=by
 have j:aw u (λu=>[λc e d=>Ti u a.p a.y b,λc e d=>Oh u (a.push (.bytes a.p.body a.p.tb)) b]):=⟨λc e d=>H6 f i h,λc e d=>Ia f (by refine(?_:(a.A.push _).size<=_);rw[Array.size_push];lia),cg⟩
 exact xT 0x1201220 [[1,2],[0,1,2]] [2,1,0] (aE []) j (Nat.le_of_lt g) (G:=[[0],[0]]) (I:=[0]) (Q:=trivial) (H:=by kernel_rfl) (hc:=rfl) (ht:=rfl)
noncomputable def Oj(u:WB)(a:LP)(b:fB):Spec:=
 ⟨xF a.acc a.y.ga,130,none,⟨a.VO (Pm u) b,[(a.y.g,r3 u a.p.L)],λc ω=>[cm a.A a.ep,a.y.oo,jG (Pm u) a.p b],λω ω=>[.finished],nn,nn,[],nn⟩,λω ω=>uj .none⟩
theorem D0(f:dg b)(h:a.p.body.size=0)(e:a.A.size<=1000000):aI u (λu=>Oj u a b):=by
 have i:aw u (λu=>[λc j d=>hy a.y.ga a.y.g a.y.nm a.y.qn (r3 u a.p.L) (z5 u a.p b)]):=⟨λc j d=>H7 f h,cg⟩
 exact xT 0x1201221 [[1,2]] [2,1,0] (aE []) i e (G:=[[0]]) (I:=[0]) (Q:=trivial) (H:=by kernel_rfl) (hc:=rfl) (ht:=rfl)
theorem Az(g:dg b)(h:a.p.body.size<=1000000)(f:a.A.size<1000000):OK u (H9 u a b):=by
 cases c:a.p.body.size with
 |zero=>
  refine(D0 (u:=u) g c (Nat.le_of_lt f)).alt rfl rfl rfl rfl rfl rfl λd e=>⟨d,e,rfl, ?_,rfl,rfl,rfl,rfl⟩
  refine(?_:[_,_,_]=[_,_,_]);unfold Ay Qy;rw[c]
 |succ i=>
  refine(DZ (u:=u) (n:=i) g c h f).alt rfl rfl rfl rfl rfl rfl λd e=>⟨d,e,rfl, ?_,rfl,rfl,rfl,rfl⟩
  refine(?_:[_,_,_]=[_,_,_]);unfold Ay Qy;rw[c]
theorem nE(a:dg b)(d:cl)(c e:Nat):dg (kn b d c e):=by rcases a with⟨_,_,_,_,_,_,_,_,rfl⟩|⟨_,_,_,_,_,_,_,_,_,_,_,rfl⟩<;>exact .inr ⟨_,_,_,_,_,_,_,_,_,_,_,rfl⟩
theorem lH(c d:cl)(a:AL):dg (hj b c d a):=by
 obtain⟨e,b⟩:=b;cases b
 ·exact .inl ⟨_,_,_,_,_,_,_,_,rfl⟩
 ·exact .inl ⟨_,_,_,_,_,_,_,_,rfl⟩
 ·exact .inr ⟨_,_,_,_,_,_,_,_,_,_,_,rfl⟩
noncomputable def nF(S:Spec)(a:Wy jz):Spec:=⟨S.code,S.dep,S.top,⟨S.UM.pre,S.UM.UR,S.UM.post,S.UM.UQ,S.UM.new,S.UM.UW,a,S.UM.US⟩,S.res⟩
noncomputable def LP.Vs(a:LP)(b:Nat)(c d:cl):Wy jz:=[⟨a.p.xs,a.R⟩,⟨#[.ref b],[(c,d)]⟩]
variable {c:Wy Ev}
theorem D1(i:dg b)(q:l.size<=100000)(n:(k::l::C).length<=100000)(m:a.A.size<=1000000)(r:∀v h s t,dg h->OK u (r5 u (a.push v) d h s t 1 (l::C) (cy z) c)):aI u (λu=>oy u a d b (k::l::C) z (.cont l::c)):=by
 have o:aw u (λu=>[λf g e=>Oc u a.p a.y a.it z b k l C,λf g e=>r5 u (a.push (.bytes (yg l) (cH e 0 0))) d (kn b l (cH e 0 1) (z 1)) (cH e 0 2) (cH e 0 3) 1 (l::C) (cy z) c]):=⟨λf g e=>DV i q n,λf g e=>r _ _ _ _ (nE i _ _ _),cg⟩
 exact xT 0x1201222 [[1,2,3],[2,3,4,0,1,6,7]] [5,4,3,2,1,0] (dT [0,2,4,6] λj=>dI (odd j)) o m (G:=[[0],[0]]) (J:=[[],[.UO 0]]) (I:=[0]) (Q:=trivial) (H:=by kernel_rfl) (hc:=rfl) (ht:=rfl)
noncomputable def Q8:uh:=[0,2,4,6,8,10,12,14,16,18,20]
theorem D2(s:dg b)(w:a.p.xs[d]?=some (.ref f))(t:RowW m n k C)(q:(k::C).length<=4)(r:a.A.size<=1000000)(x:∀D i j,dg i->OK u (oy u (a.push D) (d+1) i (k::C) j c)):aI u (λu=>nF (oy u a d b [l] z (.row m n k C::c)) (a.Vs f m n)):=by
 have v:aw u (λu=>[λg h e=>N9 u a.p a.y a.it d f z b l m n k C,λg h e=>oy u (a.push (.bytes (ow m k) (cH e 0 1))) (d+1) (hj b m n (cH e 0)) (k::C) (N7 (cH e 0)) c]):=⟨λg h e=>DS s w t q,λg h e=>x _ _ _ (lH _ _ _),cg⟩
 exact xT 0x1201221 [[1,2,3,4,5],[1,2,3,0,5,6]] [5,4,3,2,1,0] (dT Q8 λo=>dI (odd o)) v r (G:=[[0],[0]]) (J:=[[.UO 1],[.UO 0]]) (I:=[0]) (Q:=trivial) (H:=by kernel_rfl) (hc:=rfl) (ht:=rfl)
theorem D3(f:dg b)(h:a.p.body.size<=1000000)(j:a.A.size<900000):aI u (λu=>oy u a a.p.xs.size b [k] z []):=by
 have i:aw u (λu=>[λd e c=>Od u a.p a.y a.it z b k,λd e c=>H9 u (a.push (.bytes #[10] (cH c 0 0))) b]):=⟨λd e c=>DW f,λd e c=>Az f h (by refine(?_:(a.A.push _).size<_);rw[Array.size_push];lia),cg⟩
 exact xT 0x1201220 [[1,2,3,4,5],[0,1,2]] [5,4,3,2,1,0] (dT [0] λg=>dI (odd g)) i (by refine(?_:a.A.size<=_);lia) (G:=[[0],[0]]) (I:=[0]) (Q:=trivial) (H:=by kernel_rfl) (hc:=rfl) (ht:=rfl)
variable {e:Wy cl}
theorem D4(n:dg b)(r:e[f]?=some k)(t:k.size<=100000)(q:a.A.size<=1000000)(v:∀w m,dg m->OK u (r5 u (a.push w) d m g h (f+1) e z c)):aI u (λu=>r5 u a d b g h f e z (.cont k::c)):=by
 have s:aw u (λu=>[λj l i=>Oe u a.p a.y a.it g h f e z b k,λj l i=>r5 u (a.push (.bytes (yg k) (cH i 0 0))) d (kn b k (cH i 0 1) (z f)) g h (f+1) e z c]):=⟨λj l i=>DX n r t,λj l i=>v _ _ (nE n _ _ _),cg⟩
 exact xT 0x1201220 [[1,2,3,4],[0,1,2,3,4,5,6]] [6,5,4,3,2,1,0] (dT [0,2,4,6] λo=>dI (odd o)) s q (G:=[[0],[0]]) (J:=[[],[.UO 0]]) (I:=[0]) (Q:=trivial) (H:=by kernel_rfl) (hc:=rfl) (ht:=rfl)
theorem D5(v:dg b)(D:a.p.xs[d]?=some (.ref f))(w:RowW m n k C)(s:(k::C).length<=4)(t:a.A.size<=1000000)(G:∀L o q,dg o->OK u (oy u (a.push L) (d+1) o (k::C) q c)):aI u (λu=>nF (r5 u a d b g h e.length e z (.row m n k C::c)) (a.Vs f m n)):=by
 have x:aw u (λu=>[λj l i=>Oa u a.p a.y a.it d f g h e z b m n k C,λj l i=>oy u (a.push (.bytes (ow m k) (cH i 0 1))) (d+1) (hj b m n (cH i 0)) (k::C) (N7 (cH i 0)) c]):=⟨λj l i=>DT v D w s,λj l i=>G _ _ _ (lH _ _ _),cg⟩
 exact xT 0x1201221 [[1,2,3,4,5,6],[1,2,3,0,6,7]] [6,5,4,3,2,1,0] (dT Q8 λr=>dI (odd r)) x t (G:=[[0],[0]]) (J:=[[.UO 1],[.UO 0]]) (I:=[0]) (Q:=trivial) (H:=by kernel_rfl) (hc:=rfl) (ht:=rfl)
theorem D6(i:dg b)(k:a.p.body.size<=1000000)(m:a.A.size<900000):aI u (λu=>r5 u a a.p.xs.size b g h e.length e z []):=by
 have l:aw u (λu=>[λd f c=>Of u a.p a.y a.it g h e z b,λd f c=>H9 u (a.push (.bytes #[10] (cH c 0 0))) b]):=⟨λd f c=>DY i,λd f c=>Az i k (by refine(?_:(a.A.push _).size<_);rw[Array.size_push];lia),cg⟩
 exact xT 0x1201220 [[1,2,3,4,5,6],[0,1,2]] [6,5,4,3,2,1,0] (dT [0] λj=>dI (odd j)) l (by refine(?_:a.A.size<=_);lia) (G:=[[0],[0]]) (I:=[0]) (Q:=trivial) (H:=by kernel_rfl) (hc:=rfl) (ht:=rfl)
noncomputable def Ib(u:WB)(a:LP)(d h e:cl)(f:Wy cl)(c:Wy Ev):Spec:=
 ⟨xF a.acc a.y.ga,130,none,⟨a.VN++[⟨a.p.L,jG (Pm u) a.p fz,true⟩,⟨a.p.hl,cm a.p.xs a.p.U3,false⟩],[(a.y.g,.fresh (jl a.p.L))],λb ω=>a.postA (.row d h e f::c) (cy b)++[jG (Pm u) a.p (xE fz (λω=>0) 0 (.row d h e f::c) (cy b)),cm a.p.xs a.p.U3],λω ω=>[.finished],nn,nn,[⟨a.p.xs,a.R⟩],nn⟩,λω ω=>uj .none⟩
theorem Ic(r:a.p.xs[0]?=some (.ref f))(o:RowW m n k C)(j:(k::C).length<=4)(l:a.A.size<=1000000)(s:∀t it g h,dg g->OK u (oy u {(a.push t)with it:=it} 1 g (k::C) h c)):aI u (λu=>nF (Ib u a m n k C c) (a.Vs f m n)):=by
 have q:aw u (λu=>[λd e b=>Ob u a.p a.y f m n k C,λd e b=>oy u {(a.push (.bytes (ow m k) (cH b 0 2)))with it:=cH b 0 0} 1 (hj fz m n (cy (cH b 0))) (k::C) (N7 (cy (cH b 0))) c]):=⟨λd e b=>DU r o j,λd e b=>s _ _ _ _ (lH _ _ _),cg⟩
 exact xT 0x1201222 [[1,2,3],[2,3,4,1,0,5]] [3,2,1,0] (dT [0,2,4,6,8,10,12,14,16,18,20,22] λi=>dI (odd i)) q l (G:=[[0],[0]]) (J:=[[.UO 1],[.UO 0]]) (I:=[0]) (Q:=trivial) (H:=by kernel_rfl) (hc:=rfl) (ht:=rfl)
end
section
open PySem.Calls
theorem uK(a:ug)(b:Nat)(c:Wz):Obj.mapSeq (·.pop) (cm (a.push c) (b+1))=cm a (b+1+1):=by unfold cm Obj.mapSeq;simp
section
variable {R:Type}
noncomputable def WP(e:Nat)(c f d:Nat)(a:ug)(b:Nat):aJ R WH:=cB (XA d c (cm a b) (cm (a.push .none) (b+1))) λω=>cB (XA d c (cm (a.push .none) (b+1)) (cm a (b+1+1))) λω=>f9 e ⟨none,none⟩ (.builtin "list.extend.loop" ⟨[.ref c,.ref f,.none],[]⟩)
noncomputable def XC(i b a:Nat)(f h:Wz)(e:Nat->aJ R WH):aJ R WH:=cB cJ λc=>cB cJ λd=>cB (cC d b) λg=>cE (.o g (ey a f h)) (e c)
end
noncomputable def qe(S:Spec)(b:Nat):Wz:=match S.UM.pre with
 |_::a::_=>(match a.obj.data with| .fields c=>(c.toList[b]?).getD .none|_=>.none)
 |_=>.none
noncomputable def D7(S:Spec):Nat:=match qe S 0 with
 | .int (.ofNat a) _=>a
 |_=>0
noncomputable def hX(b:WB)(S:Spec):aJ (WH×St) WH:=XC (ad S.code 0) (ad S.code 1) (D7 S) (qe S 1) (qe S 2) λa=>cB (XA a (ad S.code 0) (cm #[] 0) (cm #[] 0)) λω=>WP S.dep (ad S.code 0) (ad S.code 1) a #[] 0
noncomputable def im(b:WB)(S:Spec):aJ (WH×St) WH:=XC (ad S.code 0) (ad S.code 1) (D7 S) (qe S 1) (qe S 2) λa=>WP S.dep (ad S.code 0) (ad S.code 1) a (jO S) (mq S)
theorem nG:entryFor table "list.__init__" =some Builtin.«list.__init__»:=entryFor_of_tree (by kernel_rfl)
theorem lJ:entryFor table "list.extend" =some Builtin.«list.extend»:=entryFor_of_tree (by kernel_rfl)
section
variable {R0:Type} {P:WJ} {w:WG} {K:Nat->WA gi} {F:R0->St->Prop} {Fm:Wy Env} {acc ga:Nat} {A:ug} {ep:Nat}
noncomputable def XD(e:Model)(d:WK)(acc ga:Nat)(A:ug)(ep:Nat)(f:WH->WF->Prop)(a:WF):Prop:=a.heap.get? acc=some (cm A ep)/\∀b,b (cm A ep)=cm (A.push .none) (ep+1)->(a.heap.update acc b).get? acc=some (cm (A.push .none) (ep+1))/\∀c,c (cm (A.push .none) (ep+1))=cm A (ep+1+1)->codeAny e d (.builtin "list.extend.loop" ⟨[.ref acc,.ref ga,.none],[]⟩) f {a with heap:=(a.heap.update acc b).update acc c}
variable {a:WK}
theorem ax.tou(b:a.frames=some Fm)(e:MV a c ⟨none,none⟩):ax P w K F Fm (WP c acc ga d A ep) (XD (model P w) a acc ga A ep):=
 (ax.ls rfl (g0 _ _ _ rfl)).YI λω=>(ax.ls rfl (g0 _ _ _ rfl)).YI λω=>ax.YO b e
theorem ax.Y7{c:Nat}{v x:Wz}{b:Nat->aJ (R0×St) WH}{a:(WH->WF->Prop)->WF->Prop}(d:∀e,ax P w K F Fm (b e) λR f=>f.heap.get? ga=some (ey c v x)->a R f):ax P w K F Fm (Mine.XC acc ga c v x b) a:=
 .YM λe=>.YM λj=>(ax.cC.YI λg=>ax.Y9 (d e)).mono λR f ⟨g,i,h,d⟩=>d ((show g=_ from h)▸i)
theorem td(f:A.size<=1000000){b:WH->WF->Prop}(e:I.heap.get? ga=some (ey c v x))(d:XD (model PW w) a acc ga A ep b I):
  wpAny (model PW w) a.in1 (Builtin.List.listExtendWith (.ref acc) (.ref ga) .none) (λi g=>match i with
  | .done i=>b (.ok i) g
  | .again k=>k.quiet=true/\codeAny (model PW w) a k b g) (λh g=>b (.error h) g) I:=by
 obtain⟨j,d⟩:=d;obtain⟨q,d⟩:=d _ (gQ _ _ _);have p:acc≠ga:=λh=>by
  rw[h,e]at j;cases congrArg (λr:WA gi=>r.map Obj.data) j
 unfold Builtin.List.listExtendWith;refine ci (wpAny_typeOf (T:= "generator") ⟨_,e,rfl⟩ ?_);have l:Builtin.List.listSameRef (.ref acc) (.ref ga)=false:=beq_false_of_ne p;have n:(Value.type "generator" ==Value.type "list")=false:=by decide
 have o:(Value.type "generator" ==Value.type "tuple")=false:=by decide
 simp only[l,n,o,Bool.or_false,Bool.false_eq_true,if_false];refine ci (wpAny_pyIter_gen (g:=c) ?_ ?_)
 ·exact⟨_,v,x,e,rfl,rfl,rfl⟩
 refine ci (wpAny_holding ?_);unfold Builtin.List.listLengthHint;refine ci (wpAny_specialOf (T:= "generator") ⟨_,e,rfl⟩ F.gen_no_len ?_);refine ci (m:=specialOf (Value.ref ga) (Str.ofString "__length_hint__")) (wpAny_specialOf (T:= "generator") ⟨_,e,rfl⟩ F.gen_no_hint ?_);refine cj ?_;refine ci (m:=rule "list.extend.makes-room") (wpAny_rule ?_);refine ci (m:=updateSeq acc (·.push .none)>>=λω=>updateSeq acc (·.pop)) ?_
 refine ci (wpAny_updateSeq j rfl ?_ (Nat.le_trans f (by decide)) (by refine(?_:(Array.push _ _).size<=_);rw[Array.size_push];exact Nat.succ_le_succ (Nat.le_trans f (by decide))));refine wpAny_updateSeq q rfl ?_ (by rw[Array.size_push];exact Nat.le_trans (Nat.succ_le_succ f) (by decide)) (by refine(?_:(Array.pop _).size<=_);rw[Array.size_pop,Array.size_push];exact Nat.le_trans f (by decide));exact cj ⟨by kernel_rfl,d _ (uK _ _ _)⟩
end
section
variable {u:WB} {S:Spec}
theorem o5(g:(jO S).size<=1000000)(h:S.code= .builtin "list.extend" ⟨[.ref (ad S.code 0),.ref (ad S.code 1)],[]⟩)(j:S.top=none)(a:WK)(b:Wy Env)(d:WH->St->Prop)(e:a.frames=some b)(c:MV a S.dep ⟨none,S.top⟩):ax PW (W2 u) (KB (W2 u)) d b (im u S) (runC (model PW (W2 u)) a S.code):=by
 rw[j]at c;refine .Y7 λk=>(ax.tou e c).mono λR l f i=> ?_
 rw[h];exact dY (A:=a) (id:= "list.extend") (by decide+kernel) lJ (td g i f)
theorem pj(j:S.code= .builtin "list.__init__" ⟨[.ref (ad S.code 0),.ref (ad S.code 1)],[]⟩)(l:S.top=none)(a:WK)(d:Wy Env)(f:WH->St->Prop)(h:a.frames=some d)(e:MV a S.dep ⟨none,S.top⟩):ax PW (W2 u) (KB (W2 u)) f d (hX u S) (runC (model PW (W2 u)) a S.code):=by
 rw[l]at e;refine .Y7 λo=>((ax.ls rfl (.refl _)).YI λω=>ax.tou h e).mono λR p ⟨c,i⟩ b=> ?_
 rw[j];refine dY (A:=a) (id:= "list.__init__") (by decide+kernel) nG ?_;refine ci (m:=Builtin.List.listItems (.ref (ad S.code 0))) (wpAny_listItems c rfl ?_);refine ci (m:=updateSeq (ad S.code 0) (λω=> #[])) (wpAny_updateSeq c rfl ?_ (by decide) (by decide))
 refine ci (wpAny_letGo ?_);have k:ad S.code 1≠ad S.code 0:=λg=>by
  rw[g,c]at b;cases congrArg (λn:WA gi=>n.map Obj.data) b
 exact td (by decide) ((Heap.get?_update_ne _ _ _ _ k).trans b) (i _ rfl)
end
end
section
open PySem.Calls
theorem iT{a:WB}{S:WB->Spec}{Y:WB->Wy TU}(g:Nat)(h:Wy (uh))(k:uh)(j:AL->SL->AL)(l:aw a Y)(G:Wy (uh):=[])(J:Wy (Wy f8):=[])(I:uh:=[])(i:Wy f8:=[])(Z:AL->SL->SL:=g4 [])(c:WB->Wy TG:=λω=>[])(d e:Wy (uh):=[])(f:Wy (Wy f8):=[])(Q:aG a c)
 (H:RL hX Spec.UM (λb=>S (vB a b)) (λb=>⟨0,dc g,Y (vB a b),h,G,J,c (vB a b),d,e,f⟩) k I i (vB a)=RR hX Spec.UM Spec.res (λb=>S (vB a b)) (λb=>⟨0,dc g,Y (vB a b),h,G,J,c (vB a b),d,e,f⟩) j Z (vB a))
 (hc:(S a).code= .builtin "list.__init__" ⟨[.ref (ad (S a).code 0),.ref (ad (S a).code 1)],[]⟩)(ht:(S a).top=none):aI a S:=
 bK (v:=vB a) (S:=(λb=>S (vB a b))) (λb=>⟨0,dc g,Y (vB a b),h,G,J,c (vB a b),d,e,f⟩) k I i j Z a.b1 l Q H (pj hc ht)
end
section
noncomputable def jX(b:Wy dh):Wy Ev->Wy cl->Nat->Prop
 |[],left,a=>left=[]/\a=b.length
 | .cont f::c,left,a=>∃h,left=f::h/\f.size<=100000/\jX b c h a
 | .row e i g d::c,left,a=>left=[]/\b[a]?=some (e,i)/\RowW e i g d/\(g::d).length<=4/\jX b c d (a+1)
variable {a:LP}
theorem lI(h:a.p.xs[d]?=some (.ref c))(g:a.R[d]?=some (k,l)):∀e:Heap,(∀B∈[(⟨a.p.xs,a.R⟩:jz)],dV e B)->∀B∈a.Vs c k l,dV e B:=λe f B b=>by
 rcases t6 b with rfl|b
 ·exact f _ (.head _)
 ·rw[List.mem_singleton]at b;subst b;exact(f _ (.head _)).at h g
theorem RJ{u:WB}:∀(d:Wy Ev),
  (∀(a:LP) (b:Nat) (F:fB) (y:cl) (left:Wy cl) (g:AL),jX a.R d left b->dg F->a.p.body.size<=1000000->a.A.size+d.length<900000->left.length<=1000->OK u (oy u a b F (y::left) g d))/\
  (∀(a:LP) (b:Nat) (F:fB) (s t e:Nat) (f:Wy cl) (g:AL),jX a.R d (f.drop e) b->e<=f.length->dg F->a.p.body.size<=1000000->a.A.size+d.length<900000->OK u (r5 u a b F s t e f g d))
 |[]=>by
  constructor
  ·intro a b F y left g c i j h k;obtain⟨rfl,H⟩:=c;refine ct.member (xs:=a.p.xs) (rows:=a.R) (.head _) λk x=> ?_
   have:b=a.p.xs.size:=by rw[H,k]
   subst this;exact D3 i j (by simpa using h)
  ·intro a b F s t e f g c T i j h;obtain⟨o,H⟩:=c;refine ct.member (xs:=a.p.xs) (rows:=a.R) (.head _) λk x=> ?_
   have:b=a.p.xs.size:=by rw[H,k]
   subst this;have:e=f.length:=by
    have:=congrArg List.length o;simp at this;lia
   subst this;exact D6 i j (by simpa using h)
 | .cont Y::d=>by
  obtain⟨M,N⟩:=RJ (u:=u) d;constructor
  ·intro a b F y left g c i j h k;obtain⟨O,rfl,L,c⟩:=c;have G:a.A.size+(d.length+1)<900000:=h;refine D1 i L (by simp at k|-;lia) (by lia) λz l s t m=>N _ b l s t 1 (Y::O) (cy g) c (by simp) m j ?_
   refine(?_:(a.A.push _).size+_<_);rw[Array.size_push];lia
  ·intro a b F s t e f g c T i j h;obtain⟨O,o,L,c⟩:=c;have G:a.A.size+(d.length+1)<900000:=h;have P:f[e]?=some Y:=by
    have:=congrArg (·[0]?) o;simpa[List.getElem?_drop]using this
   have I:e<f.length:=by
    have:=congrArg List.length o;simp at this;lia
   refine D4 i P L (by lia) λz l m=>N _ b l s t (e+1) f g ?_ I m j ?_
   ·have:f.drop (e+1)=O:=by
     have:=congrArg (List.drop 1) o;simpa[List.drop_drop]using this
    rw[this];exact c
   ·refine(?_:(a.A.push _).size+_<_);rw[Array.size_push];lia
 | .row Q z V W::d=>by
  obtain⟨M,N⟩:=RJ (u:=u) d;constructor
  ·intro a b F y left g c i j h k;obtain⟨rfl,n,x,w,c⟩:=c;have G:a.A.size+(d.length+1)<900000:=h;refine ct.member (xs:=a.p.xs) (rows:=a.R) (.head _) λk J=> ?_
   have I:b<a.R.length:=by
    rcases Nat.lt_or_ge b a.R.length with q|q
    ·exact q
    ·rw[List.getElem?_eq_none q]at n;cases n
   obtain⟨v,r⟩:∃v,a.p.xs[b]?=some v:=⟨a.p.xs[b]'(by lia),by simp[show b<a.p.xs.size by lia]⟩;obtain⟨D,rfl⟩:=J b v r;refine ct.more (bs:=a.Vs D Q z) (D2 (l:=y) i r x w (by lia) λX l C m=>M _ (b+1) l V W C c m j ?_ (by simp at w;lia)) (lI r n)
   refine(?_:(a.A.push _).size+_<_);rw[Array.size_push];lia
  ·intro a b F s t e f g c T i j h;obtain⟨o,n,x,w,c⟩:=c;have G:a.A.size+(d.length+1)<900000:=h;have:e=f.length:=by
    have:=congrArg List.length o;simp at this;lia
   subst this;refine ct.member (xs:=a.p.xs) (rows:=a.R) (.head _) λk J=> ?_
   have I:b<a.R.length:=by
    rcases Nat.lt_or_ge b a.R.length with q|q
    ·exact q
    ·rw[List.getElem?_eq_none q]at n;cases n
   obtain⟨v,r⟩:∃v,a.p.xs[b]?=some v:=⟨a.p.xs[b]'(by lia),by simp[show b<a.p.xs.size by lia]⟩;obtain⟨D,rfl⟩:=J b v r;refine ct.more (bs:=a.Vs D Q z) (D5 i r x w (by lia) λX l C m=>M _ (b+1) l V W C c m j ?_ (by simp at w;lia)) (lI r n)
   refine(?_:(a.A.push _).size+_<_);rw[Array.size_push];lia
theorem Ie{b:Wy Ev}(d:jX a.R (.row k l m C::b) [] 0)(o:a.p.body.size<=1000000)(t:a.A.size+b.length+1<900000):OK u (Ib u a k l m C b):=by
 obtain⟨_,c,r,g,d⟩:=d;refine ct.member (xs:=a.p.xs) (rows:=a.R) (.head _) λv s=> ?_
 have w:0<a.R.length:=by
  rcases Nat.lt_or_ge 0 a.R.length with q|q
  ·exact q
  ·rw[List.getElem?_eq_none q]at c;cases c
 obtain⟨f,e⟩:∃f,a.p.xs[0]?=some f:=⟨a.p.xs[0]'(by lia),by simp[show 0<a.p.xs.size by lia]⟩;obtain⟨j,rfl⟩:=s 0 f e;refine ct.more (bs:=a.Vs j k l) (Ic e r g (by lia) λy x h i n=>(RJ b).1 _ 1 h m C i d n o ?_ (by simp at g;lia)) (lI e c)
 refine(?_:(a.A.push _).size+_<_);rw[Array.size_push];lia
noncomputable def r6:Ev->cl
 | .cont b=>yg b
 | .row a e c d=>ow a c
noncomputable def vT(a:cl):Wy cl:=match a.size with
 |0=>[#[10]]
 |_+1=>[#[10],a]
noncomputable def h9(b:Wy Ev)(a:cl):Wy cl:=b.map r6++vT a
theorem qf{body:cl}{tb:Nat}:∀(c:Wy Ev) (b:ug) (a:AL),∃F:AL,r4 body tb b c a=b++(⟨d3 (h9 c body) F⟩:ug)
 |[],b,a=>by
  unfold r4 Ay h9 vT;cases h:body.size with
  |zero=>exact⟨λω=>a 0,by apply Array.ext';simp[d3]⟩
  |succ j=>exact⟨cons (a 0) λω=>tb,by apply Array.ext';simp[d3,cons,cy]⟩
 | .cont f::c,b,a=>by
  obtain⟨F,d⟩:=qf c (b.push (.bytes (yg f) (a 0))) (cn 4 a);exact⟨cons (a 0) F,by unfold r4;rw[d,gu];rfl⟩
 | .row e k g i::c,b,a=>by
  obtain⟨F,d⟩:=qf c (b.push (.bytes (ow e g) (a 1))) (cn 11 a);exact⟨cons (a 1) F,by unfold r4;rw[d,gu];rfl⟩
end
section
noncomputable def Qz(a:Nat):Wz:= .str (lq "_format_message") a
noncomputable def Tj(e:WC)(c:Nat)(b:cl)(d:Nat):Spec:=
 ⟨ul 405 [.ref c,.bytes b d],12,none,⟨[],[],nn,nn,λa ω=>[⟨a 0,ey (a 1) (Qz (a 3)) (Qz (a 4)),false⟩,⟨a 2,p9 e c (a 5) (a 6) b d fz,true⟩],λa ω=>[(a 1,.fresh (jl (a 2)))],[],nn⟩,λa ω=>uj (.ref (a 0))⟩
theorem Gh:aI u (λu=>Tj (Pm u) a k c):=
 oU 0x100011111 [] [1,0] (dT [6,3,0,4,5,1,2] λb=>dI b) trivial (Y:=λω=>[]) (I:=[0])
noncomputable def Uc(c:ik)(d:GN)(b:Nat)(a:Wy dh):LP:=⟨c,d,b,#[],2,a,0⟩
noncomputable def Gi(c:WC)(a:ik)(b:GN):Wy aF:=[⟨b.ga,b.oo,false⟩,⟨a.L,jG c a fz,true⟩,⟨a.hl,cm a.xs a.U3,false⟩]
noncomputable def AA(b:WC)(a:ik)(e:GN)(d:Wy Ev)(c:AL):uk:=[e.oo,jG b a (xE fz (λω=>0) 0 d c),cm a.xs a.U3]
noncomputable def RK(u:WB)(a:ik)(b:GN)(d:Nat)(f:Wy dh)(c:Wy Ev):Spec:=
 ⟨xF d b.ga,130,none,⟨⟨d,cm #[] 2,false⟩::Gi (Pm u) a b,[(b.g,.fresh (jl a.L))],λe ω=>cp (h9 c a.body) (odd e) (bX a.body 2 c)::AA (Pm u) a b c (cy (dI e)),λω ω=>[.finished],nn,nn,[⟨a.xs,f⟩],nn⟩,λω ω=>uj .none⟩
variable {b:Wy Ev} {d:GN} {a:ik}
theorem Ig(i:jX M (.row k m l A::b) [] 0)(h:a.body.size<=1000000)(n:b.length+1<900000):OK u (RK u a d c M (.row k m l A::b)):=by
 have f:OK u (Ib u (Uc a d c M) k m l A b):=Ie i h (by refine(?_:0+_+1<_);lia);refine f.alt rfl rfl rfl rfl rfl rfl λe j=> ?_
 obtain⟨F,g⟩:=qf (body:=a.body) (tb:=a.tb) (.row k m l A::b) #[] (cy e);refine⟨mR e F,j,rfl, ?_,rfl,rfl,rfl,rfl⟩;refine(?_:[_,_,_,_]=[_,_,_,_]);rw[ln,lr];refine cY ?_ rfl;refine(?_:cm (r4 a.body a.tb #[] (.row k m l A::b) (cy e)) _=_);rw[g];refine(?_:cm (#[]++_) _=cm _ _);rw[Array.empty_append];rfl
noncomputable def Tk(u:WB)(a:ik)(b:GN)(d:Nat)(f:Wy dh)(c:Wy Ev):Spec:=
 ⟨um "list.__init__" [.ref d,.ref b.ga],140,none,⟨⟨d,cm #[] 0,false⟩::Gi (Pm u) a b,[(b.g,.fresh (jl a.L))],λe ω=>cp (h9 c a.body) (odd e) (bX a.body 2 c)::AA (Pm u) a b c (cy (dI e)),λω ω=>[.finished],nn,nn,[⟨a.xs,f⟩],nn⟩,λω ω=>uj .none⟩
theorem Om(i:OK u (RK u a d c M b)):aI u (λu=>Tk u a d c M b):=
 iT 0x101 [[0,1,2,3]] [3,2,1,0] (λe f=>dI e) ⟨λg j h=>i,cg⟩ (Y:=λu=>[λg j h=>RK u a d c M b]) (G:=[[0]]) (J:=[[.UO 0]]) (I:=[0]) (Z:=(λe f=>f)) (Q:=trivial) (H:=by kernel_rfl) (hc:=rfl) (ht:=rfl)
end
noncomputable def iJ(a:Nat):Env:=xi [54,7] (lq "Commit._serialize.<locals>.") 698 697 a []
noncomputable def qg(a:Nat):Wy Stmt:=(inner (mj PW.main.body [54,7])).drop a
noncomputable def Ye(b a:Nat):Code:=zk [54,7,3] b (iJ a)
noncomputable def r7(a:WC)(c b d e:Nat)(g:Wy WL)(f:Nat):gi:=ot (dx a "self" d (.ref c)::dx a "headers" e (.ref b)::g) f
noncomputable def RM(d:Wy cl)(a b c:Nat):ug:=match d with
 |[]=> #[]
 |[_]=> #[.ref a]
 |[_,_]=> #[.ref a,.ref b]
 |_=> #[.ref a,.ref b,.ref c]
noncomputable def r8(b:Nat)(e:Wy cl)(a d c:Nat):ug:= #[.ref b]++RM e a d c
noncomputable def Oo(c:WC)(f:Wy cl)(b:AL)(d:Nat):Wy WL:=match f with
 |[]=>[]
 |e::a=>[dx c "p" d (.bytes (nw e a) (b a.length))]
noncomputable def Op(a:Wy cl):Nat:=match a with
 |[]=>2
 |_=>3
noncomputable def jP(b:Wy cl):Wy dh:=b.map λa=>(az .parent,a)
noncomputable def Tl(g:WC)(c h l m i n f d j k:Nat)(o:cl)(a:Wy cl)(e:AL):Spec:=
 ⟨Ye i f,60,some f,⟨⟨f,r7 g c h l m [] 2,true⟩::pl [(i,dp n i 0),(n,cp a e j),(h,cm #[.ref d] k)],[],λb ω=>[r7 g c h l m (Oo g a e (b 3)) (Op a),k6 a.length,cp a e j,cm (r8 d a (b 0) (b 1) (b 2)) (k+a.length)],nn,nn,nn,[⟨#[.ref d],[(az .tree,o)]⟩],λb ω=>[⟨r8 d a (b 0) (b 1) (b 2),(az .tree,o)::jP a⟩]⟩,λω ω=>.ok .next⟩
noncomputable def Qw:Nat:=0x1320121223220013
theorem Gj{b:Nat}(l:A.length<=3):aI u (λu=>Tl (Pm u) c g i j h b a d e f k A y):=by
 match A,l with
 |[],_=>exact oU Qw [] [3,2,1,0] (aE []) trivial (Y:=λω=>[]) (R:=[.UO 0])
 |[m],_=>exact oU 0x13201212232211144440100151555330131334330013 [] [3,2,1,0] (aE [1,0,0,0]) trivial (Y:=λω=>[]) (R:=[.app (.UO 0) (.cells [2])])
 |[m,n],_=>exact oU 0x132012122322111444401001515553301313343322255550200161666340141445440013 [] [3,2,1,0] (aE [1,3,0,0]) trivial (Y:=λω=>[]) (R:=[.app (.UO 0) (.cells [3,2])])
 |[m,n,o],_=>exact oU 0x1320121223221114444010240f533013133433222555502001616663401414454433366660300171777350151556550013 [] [3,2,1,0] (aE [1,3,5,0]) trivial (Y:=λω=>[]) (R:=[.app (.UO 0) (.cells [4,3,2])])
 |_::_::_::_::_,l=>exact absurd l (by simp)
section
noncomputable def d5(a:WC)(e:CM)(b:AL)(d:Wy WL)(c:Nat):gi:=fk (vI a e b++d) c
noncomputable def Gk(a:WC)(c:CM)(b:AL):Wy WL:=[dx a "_tree" (b 10) c.tree,dx a "_message" (b 11) c.msg,dx a "_author" (b 12) c.UK,dx a "_author_time" (b 13) c.Vq,dx a "_author_timezone" (b 14) c.VE,dx a "_committer" (b 15) c.UL,dx a "_commit_time" (b 16) c.Vo,dx a "_commit_timezone" (b 17) c.Vy]
noncomputable def Gl(a:WC)(c:CM)(b:AL):Wy WL:=[dx a "_tree" (b 10) c.tree,dx a "_author" (b 11) c.UK,dx a "_author_time" (b 12) c.Vq,dx a "_author_timezone" (b 13) c.VE,dx a "_committer" (b 14) c.UL,dx a "_commit_time" (b 15) c.Vo,dx a "_commit_timezone" (b 16) c.Vy,dx a "_message" (b 17) c.msg]
structure SX where
 (L c d hl k1 k2:Nat)
 tl:Wy WL
 n:Nat
 A:ug
 U3:Nat
 R:Wy dh
noncomputable def SX.pre(e:WC)(a:SX)(b:gi):Wy aF:=[⟨a.L,r7 e a.c a.hl a.k1 a.k2 a.tl a.n,true⟩,⟨a.c,eu 888 a.d,false⟩,⟨a.d,b,false⟩,⟨a.hl,cm a.A a.U3,false⟩]
noncomputable def SX.post(f:WC)(a:SX)(e:gi)(g:Nat)(b:ug):uk:=[r7 f a.c a.hl a.k1 a.k2 a.tl a.n,eu 888 a.d,e,cm b (a.U3+g)]
noncomputable def r9(d:WC)(a:SX)(c:gi)(e:cl)(f:Wy Ev)(g:AL->AL):Spec:=
 ⟨.block (qg 17) (iJ a.L),160,some a.L,⟨a.pre d c,[],λb ω=>a.post d c 0 a.A,nn,λb ω=>[⟨b 0,cp (h9 f e) (g b) (bX e 2 f),false⟩],nn,[⟨a.A,a.R⟩],nn⟩,λb ω=>uj (.ref (b 0))⟩
noncomputable def qh:AL->AL:=λa=>odd (cy a)
noncomputable def Tn(b:WC)(c:cl):U:=λa e d=>Tj b (ad a 0) c (tk a 1)
noncomputable def RN(u:WB)(b:SX)(d:cl)(f:Nat)(e:Wy Ev):U:=λc g a=>Tk u ⟨cH a 1 2,b.hl,cH a 1 5,cH a 1 6,d,f,b.A,b.U3⟩ ⟨ad c 1,cH a 1 1,Qz (cH a 1 3),Qz (cH a 1 4)⟩ (ad c 0) b.R e
noncomputable def Ih(b:Wy dh)(a:Wy Ev):Prop:=jX b a [] 0/\a.length<=1000/\∃d g e f c,a= .row d g e f::c
variable {b:Wy Ev} {a:SX}
theorem AB(j:Ih a.R b)(i:k.size<=1000000):∀d f e,OK u (RN u a k c b d f e):=λd f e=>by
 obtain⟨g,h,m,p,n,o,l,rfl⟩:=j;exact Om (Ig g i (by simp at h;lia))
noncomputable def H4:Nat:=0x1108f307f012000002203010111110112
variable {x:CM}
theorem D8{y:AL}{tb:Nat}(e:Ih a.R b)(d:k.size<=1000000):aI u (λu=>r9 (Pm u) a (d5 (Pm u) {x with msg:= .bytes k tb} y (Gk (Pm u) {x with msg:= .bytes k tb} y) 18) k b qh):=by
 have f:aw u (λu=>[Tn (Pm u) k,Qx,RN u a k tb b]):=⟨λg i h=>Gh,uy,AB e d,cg⟩
 exact bT H4 [[],[],[0,1,2,6]] [3,2,1,0,6] (dT [2] λc=>dI (odd (odd (cn 1 c)))) f (G:=[[],[],[0]]) (J:=[[],[],[.UO 0]])
theorem D9{y:AL}{tb:Nat}(e:Ih a.R b)(d:k.size<=1000000):aI u (λu=>r9 (Pm u) a (d5 (Pm u) {x with msg:= .bytes k tb} y (Gl (Pm u) {x with msg:= .bytes k tb} y) 18) k b qh):=by
 have f:aw u (λu=>[Tn (Pm u) k,Qx,RN u a k tb b]):=⟨λg i h=>Gh,uy,AB e d,cg⟩
 exact bT H4 [[],[],[0,1,2,6]] [3,2,1,0,6] (dT [2] λc=>dI (odd (odd (cn 1 c)))) f (G:=[[],[],[0]]) (J:=[[],[],[.UO 0]])
noncomputable def qi(c:WA cl)(a:ug)(b:Nat):ug:=match c with
 |none=>a
 |some _=>a++ #[.ref b]
noncomputable def optN(a:WA cl):Nat:=match a with
 |none=>0
 |some _=>1
noncomputable def Ea(b:AL->AL):AL->AL:=λa=>b (cn 5 a)
noncomputable def SX.app(a:SX)(c:Wz)(b:dh):SX:={a with A:=a.A++ #[c],U3:=a.U3+1,R:=a.R++[b]}
noncomputable def jm(d:WC)(a:SX)(c:gi)(g:WA cl)(e:cl)(f:Wy Ev)(h:AL->AL):Spec:=
 ⟨.block (qg 16) (iJ a.L),165,some a.L,⟨a.pre d c,[],λb ω=>a.post d c (optN g) (qi g a.A (b 1)),nn,λb ω=>[⟨b 0,cp (h9 f e) (h b) (bX e 2 f),false⟩],nn,[⟨a.A,a.R⟩],nn⟩,λb ω=>uj (.ref (b 0))⟩
noncomputable def H5:Nat:=0x11407f12600f010110df1101407f0130000033043
variable {e:AL->AL} {f:Wy WL} {c:CM}
theorem Eb(j:OK u (r9 (Pm u) a (d5 (Pm u) {c with sig:= .none} y f d) k b e)):aI u (λu=>jm (Pm u) a (d5 (Pm u) {c with sig:= .none} y f d) none k b (Ea e)):=
 bT H5 [[1,2,3,4]] [3,2,1,0,5] (dT [5,0,0,0,0] λg=>dI (cn 5 g)) ⟨λh l i=>j,cg⟩ (Y:=λu=>[λh l i=>r9 (Pm u) a (d5 (Pm u) {c with sig:= .none} y f d) k b e]) (J:=[[.UO 0]])
noncomputable def JW:Nat:=0x11407f12f3bf23bfa19f330412555502307f13600f010110df1101407f014000004405001723
theorem Ec(q:l.size=h+1)(s:l.size<=1000000)(p:a.A.size<=1000000)(o:∀r,OK u (r9 (Pm u) (a.app r (az .sig,l)) (d5 (Pm u) {c with sig:= .bytes l g} y f d) k b e)):aI u (λu=>jm (Pm u) a (d5 (Pm u) {c with sig:= .bytes l g} y f d) (some l) k b (Ea e)):=
 bT JW [[],[6],[3,4,5,6]] [3,2,1,0,7] (dT [20,16,0,0,0] λn=>dI (odd (cn 6 (odd (cn 5 n))))) ⟨λj i m=>aD (by rw[q]) (by lia),fU p,λj i m=>o _,cg⟩ (Y:=λu=>[fl l ((h+1:Nat):Int),mn a.A,λj i m=>r9 (Pm u) (a.app (l8 i 4 1) (az .sig,l)) (d5 (Pm u) {c with sig:= .bytes l g} y f d) k b e]) (J:=[[],[],[.app (.UO 0) (.cells [0])]])
noncomputable def SX.opt(a:SX)(c:WA cl)(b:cl)(e:Wz):SX:=match c with
 |none=>a
 |some d=>a.app e (b,d)
noncomputable def ko(b:WA cl):Prop:=∀a,b=some a->a.size≠0/\a.size<=1000000
theorem AC(q:ko V)(o:a.A.size<=1000000)(i:c.sig=iX V g)(h:∀r,OK u (r9 (Pm u) (a.opt V (az .sig) r) (d5 (Pm u) c y f d) k b e)):OK u (jm (Pm u) a (d5 (Pm u) c y f d) V k b (Ea e)):=by
 cases V with
 |none=>
  have l:c={c with sig:= .none}:=by cases c;simp only at i;subst i;rfl
  rw[l]at h|-;exact Eb (h .none)
 |some j=>
  have l:c={c with sig:= .bytes j g}:=by cases c;simp only at i;subst i;rfl
  rw[l]at h|-;obtain⟨s,n⟩:=q j rfl;obtain⟨m,p⟩:∃m,j.size=m+1:=⟨j.size-1,by lia⟩;exact Ec p n o h
end
section
open PySem.Calls
structure nH where
 o:Str
 p1:Pos
 name:Str
 apos:Pos
 elt:PySem.Expr
 g:Comprehension
 scope:Scope
 (p2 pos p0:Pos)
noncomputable def nH.st(a:nH):Stmt:= .Expr (.Call (.Attribute (.Name a.o a.p1) a.name a.apos) [.GeneratorExp a.elt [a.g] a.scope a.p2] [] a.pos) a.p0
instance:Inhabited nH:=⟨⟨Str.ofString "",⟨0,0,0,0⟩,Str.ofString "",⟨0,0,0,0⟩,default,⟨default,default,[],0⟩,default,⟨0,0,0,0⟩,⟨0,0,0,0⟩,⟨0,0,0,0⟩⟩⟩
noncomputable def jQ(j:Stmt):nH:=match j with
 | .Expr (.Call (.Attribute (.Name e g) d a) [.GeneratorExp b (c::_) k h] _ i) f=>⟨e,g,d,a,b,c,k,h,i,f⟩
 |_=>default
noncomputable def AD(d:PySem.Expr->Env->Sem Wz)(f:Wz->Str->Sem Bool->Sem (Wz×ui))(h:PySem.Expr->Env->Sem (WA Bool))(e:Bool->Wy Comprehension->Env->Wz->Sem Wz)(k:Wz->Sem Wz)(a:nH)(b:Env):Sem ((Wz×ui)×Wz):=
 standAt a.p0>>=λω=>d (.Name a.o a.p1) b>>=λj=>standAt a.apos.atName>>=λω=>f j a.name (h (.Name a.o a.p1) b>>=λl=>pure (l.getD true))>>=λfx=>d a.g.iter b>>=λc=>standAt (firstIterPos [a.g] a.p2)>>=λω=>e false [a.g] b c>>=λc=>k c>>=λi=>pure (fx,i)
noncomputable def qj(h:Scope->Env->Sem (Wy (Str×Addr)))(j:Env->Pos->Str->Scope->Sem Wz)(e:Addr->Addr->Sem Addr)(l:Scope->Addr->Wy (Str×Addr)->Wy (Str×Wz)->Str->Wz->Addr->Sem Env)(m:Code->Str->Str->Sem Wz)(b:nH)(a:Env)(c:(Wz×ui)×Wz):Sem (Env×Wz):=
 h b.scope a>>=λi=>j a b.p2 (a.qual++Str.ofString "<genexpr>") b.scope>>=λcode=>e a.globals a.builtins>>=λf=>l b.scope a.globals i [(Str.ofString ".0",c.2)] (a.qual++Str.ofString "<genexpr>.") code f>>=λd=>m (.compStart (.GeneratorExp b.elt [b.g] b.scope b.p2) 0 c.2 .none d) (Str.ofString "<genexpr>") (a.qual++Str.ofString "<genexpr>")>>=λk=>pure (d,k)
noncomputable def qk(c:Pos->Wz->ui->Wy (Bool×Sem Wz)->Sem Wz)(d:PySem.Expr->Pos->Wz->Sem Flow)(a:nH)(b:(Wz×ui)×Wz)(e:Wz):Sem Flow:=
 c a.pos b.1.1 b.1.2 [(false,pure e)]>>=λf=>d (.Call (.Attribute (.Name a.o a.p1) a.name a.apos) [.GeneratorExp a.elt [a.g] a.scope a.p2] [] a.pos) a.p0 f
noncomputable def nI(e:nH)(b:Env):=AD eval (λd c a=>getMethod d c a) importBound genexprIterable pyIter e b
noncomputable def ia(i:nH)(e:Env):=qj closureFor genexprCode builtinsFor (λh f d a g c b=>newFunctionEnv h f d a g none c none b) newGenerator i e
noncomputable def hm(e:nH):=qk (λd b c a=>callWith d b c a []) dropValue e
section
variable {M:Model} {Γ:Ctx} {α β:Type} {E:Wz->Pos->WF->Prop} {p:Pos} {s:WF}
variable {a:β->Pos->WF->Prop} {b:α->Sem β}
theorem bD{c:Sem α}(e:Sem.wp M Γ c (λd p s=>Sem.wp M Γ (b d) a E p s) E p s):Sem.wp M Γ (c>>=b) a E p s:=(Sem.wp_bind' ..).mpr e
theorem WR{c:Sem α}{d:α}(e:c=pure d)(f:Sem.wp M Γ (b d) a E p s):Sem.wp M Γ (c>>=b) a E p s:=by subst e;exact f
variable {f:Type}
theorem br{c:Sem α}{e:α->Sem f}{d:f->Pos->WF->Prop}(i:Sem.wp M Γ (c>>=b) a E p s)(j:∀g p s,Sem.wp M Γ (b g) a E p s->Sem.wp M Γ (e g) d E p s):Sem.wp M Γ (c>>=e) d E p s:=
 bD (Sem.wp_mono M Γ _ j (λω ω ω h=>h) _ _ ((Sem.wp_bind' ..).mp i))
theorem lu{c:Sem α}{e:α->Sem f}{d:f->Pos->WF->Prop}(i:Sem.wp M Γ (c>>=b) a E p s)(j:∀g p s,Sem.wp M Γ (b g) a E p s->Sem.wp M Γ (e g) d E p s):Sem.wp M Γ (holding L c>>=e) d E p s:=
 bD ((Sem.wp_holding ..).mpr (Sem.wp_mono M Γ _ j (λω ω ω h=>h) _ _ ((Sem.wp_bind' ..).mp i)))
variable {c:Sem Wz}
theorem WU{a:ui->Pos->WF->Prop}(e:Sem.wp M Γ c (λb p s=>a [b] p s) E p s):Sem.wp M Γ (spliced [(false,c)]) a E p s:=
 bD (Sem.wp_mono M Γ _ (λb p s g=>(bD ((Sem.wp_holding ..).mpr g):Sem.wp M Γ (holding [b] (spliced [])>>=λf=>pure ([b]++f)) a E p s)) (λω ω ω d=>d) _ _ e)
theorem WV{b:Wz}{a:Args->Pos->WF->Prop}(f:Sem.wp M Γ c (λd p s=>a ⟨[d],[]⟩ p s) E p s):Sem.wp M Γ (evalArgs b true [(false,c)] []) a E p s:=
 bD (WU (Sem.wp_mono M Γ _ (λd p s g=>(Sem.wp_holding ..).mpr g) (λω ω ω e=>e) _ _ f))
theorem yw{a:ui->Pos->WF->Prop}(c:Sem.wp M Γ (spliced [(false,pure v)]) a E p s):a [v] p s:=
 (Sem.wp_holding ..).mp ((Sem.wp_bind' ..).mp (c:Sem.wp M Γ (holding [v] (spliced [])>>=λb=>pure ([v]++b)) a E p s))
theorem yx{b:Wz}{a:Args->Pos->WF->Prop}(c:Sem.wp M Γ (evalArgs b true [(false,pure v)] []) a E p s):a ⟨[v],[]⟩ p s:=
 (Sem.wp_holding ..).mp (yw ((Sem.wp_bind' ..).mp c))
theorem call_one{d:Pos}{b:Wz}{first:ui}{a:Wz->Pos->WF->Prop}(g:Sem.wp M Γ c (λe p s=>Sem.wp M Γ (callWith d b first [(false,pure e)] []) a E p s) E p s):
  Sem.wp M Γ (callWith d b first [(false,c)] []) a E p s:=
 bD ((Sem.wp_holding ..).mpr (WV (Sem.wp_mono M Γ _ (λe p s h=>yx ((Sem.wp_holding ..).mp ((Sem.wp_bind' ..).mp h))) (λω ω ω f=>f) _ _ g)))
end
noncomputable def Cu(e c:Bool)(k:Sem Wz)(a:nH)(b:Env):Sem Wz:=
 k>>=λd=>standAt (firstIterPos [a.g] a.p2)>>=λω=>genexprIterable e [a.g] b d>>=λd=>holding [d] (if e then asyncIter d else pyIter d)>>=λf=>enterFrame>>=λω=>
 closureFor a.scope b>>=λj=>genexprCode b a.p2 (b.qual++Str.ofString "<genexpr>") a.scope>>=λcode=>builtinsFor b.globals b.builtins>>=λh=>newFunctionEnv a.scope b.globals j [(Str.ofString ".0",f)] (b.qual++Str.ofString "<genexpr>.") none code none h>>=λi=>
 (if c then newAsyncGenerator else newGenerator) (.compStart (.GeneratorExp a.elt [a.g] a.scope a.p2) 0 f .none i) (Str.ofString "<genexpr>") (b.qual++Str.ofString "<genexpr>")
theorem XE{a:Comprehension}:firstIter [a] X=eval a.iter X:=by cases a;rfl
variable {a:nH}
theorem tg(d:a.scope.isCoroutine=false)(c:firstAsync [a.g]=false):eval (.GeneratorExp a.elt [a.g] a.scope a.p2) X=Cu false false (eval a.g.iter X) a X:=by have b:eval (.GeneratorExp a.elt [a.g] a.scope a.p2) X=Cu (firstAsync [a.g]) a.scope.isCoroutine (firstIter [a.g] X) a X:=rfl;rw[b,c,d,XE]
theorem Oq{b:Model}{c:Flow->WF->Prop}{E:Wz->WF->Prop}(G:interactive X=false)(M:swapsWith (.Call (.Attribute (.Name a.o a.p1) a.name a.apos) [.GeneratorExp a.elt [a.g] a.scope a.p2] [] a.pos) none a.p0.line X=pure false)(J:(a.apos.endLine==a.pos.line)=true)(C:a.scope.isCoroutine=false)(A:firstAsync [a.g]=false)(D:F.depth<recursionLimit)
 (m:wpAny b F (nI a X) (λi s1=>s1.heap.NoLimit/\wpAny b F (ia a X i) (λl k=>wpAny b F (hm a i l.2) c E k) E s1) E I):wpAny b F (exec a.st X) c E I:=by
 intro d j e;have L:methodCallPos true (.Name a.o a.p1) X a.apos a.pos=pure a.pos:=by unfold methodCallPos;simp[J]
 refine(exec_Expr _ _ _ G M).symm▸(bD ?_:Sem.wp b d _ _ _ j I);refine bD (br (m d j e) λa3 a4 s1 n=>lu n λfx a6 k v=> ?_)
 obtain⟨a0,first⟩:=fx;refine WR L (call_one (tg C A▸ ?_));refine br v λah a7 ab w=>br w λω O R h=>br h λai O R h=>lu h λa2 Q V x=>bD ?_
 obtain⟨H,y⟩:=x;refine Sem.wp_mono b d _ (λω T ac z=> ?_) (λω ω ω f=>f) _ _ ((wpAny_enterFrame (M:=b) (A:=F) (E:=E) (Q:=λω Y=>Y=V) H D rfl) d Q e)
 subst z;refine br (y d T e) λZ p7 ae p=>br p λcode a8 af q=>br q λW a9 ag r=>br r λP a5 Kb s=> ?_
 exact Sem.wp_mono b d _ (λa1 N aa t=>(Sem.wp_bind' ..).mp (t d N e)) (λω ω ω f=>f) _ _ ((Sem.wp_bind' ..).mp s)
end
section
open PySem.Calls
noncomputable def uJ(e:nH)(b:Env):=AD PySem.W.Fast.tw14044960220447912780 (λd c a=>PySem.W.Fast.tw6042679816869820781 d c a) PySem.W.Fast.tw10963107736168562426 PySem.W.Fast.tw11392484809677674534 PySem.W.Fast.tw8711993805878244202 e b
noncomputable def nJ(i:nH)(e:Env):=qj PySem.W.Fast.tw14069538253670106520 PySem.W.Fast.tw9492743126541576920 PySem.W.Fast.tw6600643334278800223 (λh f d a g c b=>PySem.W.Fast.tw11113344188204177931 h f d a g none c none b) PySem.W.Fast.tw2426001476595277715 i e
noncomputable def nK(e:nH):=qk (λd b c a=>PySem.W.Fast.tw8289420714989923916 d b c a []) PySem.W.Fast.tw12372662630863984472 e
theorem xH(b:nH)(a:Env):uJ b a=nI b a:=by unfold uJ nI;rw[<-PySem.W.Fast.te14044960220447912780,<-PySem.W.Fast.te6042679816869820781,<-PySem.W.Fast.te10963107736168562426,<-PySem.W.Fast.te11392484809677674534,<-PySem.W.Fast.te8711993805878244202]
theorem sa(b:nH)(a:Env):nJ b a=ia b a:=by unfold nJ ia;rw[<-PySem.W.Fast.te14069538253670106520,<-PySem.W.Fast.te9492743126541576920,<-PySem.W.Fast.te6600643334278800223,<-PySem.W.Fast.te11113344188204177931,<-PySem.W.Fast.te2426001476595277715]
theorem se(a:nH):nK a=hm a:=by unfold nK hm;rw[<-PySem.W.Fast.te8289420714989923916,<-PySem.W.Fast.te12372662630863984472]
noncomputable def xI(b:Wz)(a:Env×Wz):Code:= .builtin "" ⟨[b,.ref a.1.locals,a.1.code,a.2],[]⟩
noncomputable def dH(a:Wy Stmt):Stmt:=match a with
 |s::_=>s
 |[]=>.Pass ⟨0,0,0,0⟩
section
variable {R:Type}
noncomputable def Yf(f:IH R)(c:Nat)(a:Cx)(g:Wy Stmt)(d:Env)(e:Flow):aJ R WH:=match e with
 | .next=>f.b c a g d
 |_=>cX
noncomputable def Tp(e:IH R)(d:Nat)(b:Cx)(h:nH)(i:Wy Stmt)(g:Env):aJ R WH:=cB (cK (e.t d b (uJ h g))) λa=>cB (cK (e.t d b (nJ h g a))) λf=>cE (.c (xI a.2 f) (xI a.2 f)) (cB (cK (e.t d b (nK h a f.2))) (Yf e d b i g))
end
noncomputable def bN(a:WB)(S:Spec):aJ (WH×St) WH:=Tp (sC a) S.dep ⟨none,S.top⟩ (jQ (dH (dS S.code))) (dS S.code).tail (gS S.code)
theorem i3{b:WB}{S:Spec}{a:nH}(w:jQ (dH (dS S.code))=a)(v:S.code= .block (a.st::(dS S.code).tail) (gS S.code))(p:interactive (gS S.code)=false)(q:swapsWith (.Call (.Attribute (.Name a.o a.p1) a.name a.apos) [.GeneratorExp a.elt [a.g] a.scope a.p2] [] a.pos) none a.p0.line (gS S.code)=pure false)(r:(a.apos.endLine==a.pos.line)=true)(s:a.scope.isCoroutine=false)(t:firstAsync [a.g]=false)
 (e:WK)(k:Wy Env)(l:WH->St->Prop)(o:e.frames=some k)(n:MV e S.dep ⟨none,S.top⟩):ax PW (W2 b) (KB (W2 b)) l k (bN b S) (runC (model PW (W2 b)) e S.code):=by
 have m:=λ{z:Type} (y:Sem z)=>((hU (F:=l) b).1 _ _ y e k o n.toT).YK
 unfold bN Tp;rw[w];refine((m (uJ a (gS S.code))).YI λi=>(((m (nJ a (gS S.code) i)).YI λj=>ax.Y9 ((m (nK a i j.2)).YI (V:=λh R d=>h= .next/\WT PW (W2 b) e (execs (dS S.code).tail (gS S.code)) R d) λh=> ?_)).YP (V:=λR d=>d.heap.NoLimit/\WT PW (W2 b) e (ia a (gS S.code) i) (bo λj d=>WT PW (W2 b) e (hm a i j.2) (bo λh d=>h= .next/\WT PW (W2 b) e (execs (dS S.code).tail (gS S.code)) R d) d) d) λA G R d x c=>⟨gR _ _ x.rep.base, ?_⟩)).mono λR d c=> ?_
 ·cases h with
  |next=>exact((hU (F:=l) b).2.2 _ _ _ _ e k o n.toT).mono λR d c=>⟨rfl,c⟩
  |_=>exact .stop
 ·rw[sa,se]at c;exact wpAny_mono (aL c) (λj d c=>c.2) λω ω f=>f
 ·rw[xH]at c;rw[v];refine wpAny_execs_cons (Oq p q r s t (by have:=n.dep;refine(?_:e.depth<1000);lia) (wpAny_mono (aL c) (λi s1 c=>⟨c.1,wpAny_mono (aL c.2) (λj C c=>wpAny_mono (aL c) (λh D c=> ?_) λω ω f=>f.elim) λω ω f=>f.elim⟩) λω ω f=>f.elim))
  obtain⟨rfl,c⟩:=c;exact c
end
section
open PySem.Calls
theorem gT{a:WB}{S:WB->Spec}{b:WB->Wy TU}(i:Nat)(j:Wy (uh))(o:uh)(n:AL->SL->AL)(p:aw a b)(G:Wy (uh):=[])(J:Wy (Wy f8):=[])(k:uh:=[])(l:Wy f8:=[])(m:AL->SL->SL:=g4 [])(d:WB->Wy TG:=λω=>[])(e f:Wy (uh):=[])(h:Wy (Wy f8):=[])(Q:aG a d)
 (H:RL bN Spec.UM (λc=>S (vB a c)) (λc=>⟨0,dc i,b (vB a c),j,G,J,d (vB a c),e,f,h⟩) o k l (vB a)=RR bN Spec.UM Spec.res (λc=>S (vB a c)) (λc=>⟨0,dc i,b (vB a c),j,G,J,d (vB a c),e,f,h⟩) n m (vB a))
 (hc:(S a).code= .block ((jQ (dH (dS (S a).code))).st::(dS (S a).code).tail) (gS (S a).code))(h1:interactive (gS (S a).code)=false)(h2:swapsWith (.Call (.Attribute (.Name (jQ (dH (dS (S a).code))).o (jQ (dH (dS (S a).code))).p1) (jQ (dH (dS (S a).code))).name (jQ (dH (dS (S a).code))).apos) [.GeneratorExp (jQ (dH (dS (S a).code))).elt [(jQ (dH (dS (S a).code))).g] (jQ (dH (dS (S a).code))).scope (jQ (dH (dS (S a).code))).p2] [] (jQ (dH (dS (S a).code))).pos) none (jQ (dH (dS (S a).code))).p0.line (gS (S a).code)=pure false)(h3:((jQ (dH (dS (S a).code))).apos.endLine==(jQ (dH (dS (S a).code))).pos.line)=true)(h4:(jQ (dH (dS (S a).code))).scope.isCoroutine=false)(h5:firstAsync [(jQ (dH (dS (S a).code))).g]=false):aI a S:=
 bK (v:=vB a) (S:=(λc=>S (vB a c))) (λc=>⟨0,dc i,b (vB a c),j,G,J,d (vB a c),e,f,h⟩) o k l n m a.b1 p Q H (i3 rfl hc h1 h2 h3 h4 h5)
end
section
open PySem.Calls
theorem eT{a:WB}{S:WB->Spec}{Y:WB->Wy TU}(g:Nat)(h:Wy (uh))(j:uh)(i:AL->SL->AL)(l:aw a Y)(k:(jO (S a)).size<=1000000)(G:Wy (uh):=[])(J:Wy (Wy f8):=[])(I:uh:=[])(R:Wy f8:=[])(Z:AL->SL->SL:=g4 [])(c:WB->Wy TG:=λω=>[])(d e:Wy (uh):=[])(f:Wy (Wy f8):=[])(Q:aG a c)
 (H:RL im Spec.UM (λb=>S (vB a b)) (λb=>⟨0,dc g,Y (vB a b),h,G,J,c (vB a b),d,e,f⟩) j I R (vB a)=RR im Spec.UM Spec.res (λb=>S (vB a b)) (λb=>⟨0,dc g,Y (vB a b),h,G,J,c (vB a b),d,e,f⟩) i Z (vB a))
 (hc:(S a).code= .builtin "list.extend" ⟨[.ref (ad (S a).code 0),.ref (ad (S a).code 1)],[]⟩)(ht:(S a).top=none):aI a S:=
 bK (v:=vB a) (S:=(λb=>S (vB a b))) (λb=>⟨0,dc g,Y (vB a b),h,G,J,c (vB a b),d,e,f⟩) j I R i Z a.b1 l Q H (o5 k hc ht)
end
section
section
variable {P:WJ} {w:WG} {K:Nat->WA gi}
theorem mc{b:WI}{S:Seg}(G:∀i:Heap,gq K i->i.NoLimit)(L:gb P w K S)(I:bb b S)(H:∃h,(⟨S.fr,h,true⟩:aF)∈S.UM.pre/\ew h=true)(n:∀e f,S.res e f= .ret (.ok .next)):
  ct P w K (hy d a v x b S):=by
 intro s R J r C A z k i;refine lA (nm:=v) (qn:=x) G L I H (λe f=>by rw[n];rfl) (Nat.le_refl _) r C A z ⟨k.pre,k.nd,k.UR,k.U6,k.UX⟩ λe f g p=> ?_
 rw[n];refine(?_:wpAny _ _ (newExc (.type "StopIteration") []>>=_) _ _ _);refine ci ?_;simp only[newExc,newTuple];refine ci (wpAny_newObj_type ?_ (by size_fits));refine ci (m:=firstArgMember _ _) (wpAny_of_eq (a:=Value.none) (by first|rfl|(simp only[firstArgMember];rfl)) ?_);refine wpAny_newObj_type ?_ (by size_fits);simp only[raiseNew];refine ci (ci (wpAny_handled ?_));rw[show s.in1.handled=none from r.hd];refine wpAny_throw ?_;have q:∀j h,J.heap.get? j=some h->j<g.heap.objs.size:=λj h l=>by
  obtain⟨M,D,_⟩:=p.step.U7 j h l;exact Heap.lt_size D
 have o:∀(i:Heap) (h:gi),(i.push h).objs.size=i.objs.size+1:=λi h=>by first|exact Heap.size_push .. |simp[Heap.push]
 have t:=gO (E':=⟨(gN d a v x b S).pre,(gN d a v x b S).UR,λe f=>ey a v x::S.UM.post (cy (cy e)) f,λe f=>.finished::S.UM.UQ (cy (cy e)) f,λe f=>⟨e 0,eE #[],false⟩::S.UM.new (cy (cy e)) f,λe f=>S.UM.UW (cy (cy e)) f,S.UM.UX,λe f=>S.UM.US (cy (cy e)) f⟩)
  (al':=cons g.heap.objs.size (cons (g.heap.objs.size+1) e)) (c:=⟨g.heap.objs.size,eE #[],false⟩) p rfl rfl rfl (by refine(?_:_=(S.res e f).genState::_);rw[n];rfl) rfl rfl rfl rfl rfl rfl q
 have y:=gO (E':=pF d a v x b S) (al':=cons g.heap.objs.size (cons (g.heap.objs.size+1) e)) (c:=⟨g.heap.objs.size+1,qZ g.heap.objs.size,false⟩) t rfl rfl rfl rfl rfl rfl (by refine(?_:_=(g.heap.push (eE #[])).objs.size);rw[o]) rfl rfl rfl (λj h l=>by
  refine(?_:j<(g.heap.push (eE #[])).objs.size);rw[o];exact Nat.lt_succ_of_lt (q j h l))
 have:=i _ _ _ y;have e2:(g.heap.push (eE #[])).objs.size=g.heap.objs.size+1:=o _ _;refine(?_:R (.error (.ref (g.heap.push (eE #[])).objs.size)) _);rw[e2];exact this
end
end
section
noncomputable def Ov:nH:=jQ (dH (qg 15))
noncomputable def Ud:PySem.Expr:= .GeneratorExp Ov.elt [Ov.g] Ov.scope Ov.p2
noncomputable def Ow(b a:Nat):Env:=⟨Ov.scope,a,3,[],lq "Commit._serialize.<locals>.<genexpr>.",none,.ref b,some a,0⟩
noncomputable def gE(c b a:Nat):Code:= .compStart Ud 0 (.ref c) .none (Ow b a)
structure kz where
 (L it cc le VC k0:Nat)
 E:ug
inductive uL where
 |zero
 |one (h v:cl) (k1 k2 th tv:Nat)
noncomputable def RQ(a:WC):uL->Wy WL
 | .zero=>[]
 | .one b g c d e f=>[dx a "field" c (.bytes b e),dx a "value" d (.bytes g f)]
noncomputable def Ue:uL->Nat
 | .zero=>1
 | .one .. =>3
noncomputable def Ii(b:WC)(d c:Nat)(a:uL):gi:=ot (dx b ".0" d (.ref c)::RQ b a) (Ue a)
noncomputable def Ed(d:uL)(b c:cl)(a:AL):uL:=match d with
 | .zero=>.one b c (a 1) (a 2) (a 3) (a 4)
 | .one _ _ e f _ _=>.one b c e f (a 3) (a 4)
noncomputable def lK(c:WC)(a:kz)(b:uL)(d:Nat):Wy aF:=[⟨a.L,Ii c a.k0 a.it b,true⟩,⟨a.it,dp a.le a.it d,false⟩,⟨a.le,cm a.E a.VC,false⟩]
noncomputable def QA(a d c b:Nat):kz:=⟨a,d,c,100001,0,0,#[.ref b]⟩
noncomputable def sh(a:kz)(c b:Nat):Wy U:=[λd f e=>xf a.it a.le c a.E a.VC (.ref b)]
noncomputable def Gm(e:WG)(a d c b:Nat):oq:=(⟨gE d c a,none,[],a,60,⟨lK e.params (QA a d c b) .zero 0,[],nn,nn,nn,nn,[⟨#[.ref b],[(#[],#[])]⟩],nn⟩,λω ω=>.ret (.ok .next)⟩,sh (QA a d c b) 0 b,[])
noncomputable def Tm:Nat:=0x10201222001f3e8e0000bf01f0af01110111113e8e011001200f40
noncomputable def To:Nat:=0x122012120201222001f3e8e0000bf01f0af01110111113e8e011001200f40
noncomputable def o6(u:WB)(b d c:Nat):WA (End×St):=
 let a:=100007
 match u.b2 with
 |true=>ke ⟨u.w,u.b1,true⟩ (Gm (W2 ⟨u.w,u.b1,true⟩) b d c a).1 ({n:=185,UT:=dc Tm,us:=(sh (QA b d c a) 0 a),ps:=[[1,2]]}:fF) ⟨0,0,0,0⟩ (λω=>0) (λω=> #[])
 |false=>ke ⟨u.w,u.b1,false⟩ (Gm (W2 ⟨u.w,u.b1,false⟩) b d c a).1 ({n:=203,UT:=dc To,us:=(sh (QA b d c a) 0 a),ps:=[[1,2]]}:fF) ⟨0,0,0,0⟩ (λω=>0) (λω=> #[])
noncomputable def QC(u:WB)(a:kz)(b:Wz):End:=aH (o6 u a.L a.it a.cc) b
theorem vU(u:WB)(a c b:Nat):qY (aH (o6 u a c b) .none)=true:=by obtain⟨d,b1,b2⟩:=u;cases b1<;>cases b2<;>kernel_rfl
theorem Ox(u:WB)(a c b:Nat):(aH (o6 u a c b) .none).quiet=true:=by obtain⟨d,b1,b2⟩:=u;cases b1<;>cases b2<;>kernel_rfl
noncomputable def Ij(u:WB)(a:kz):WI:=(aH (o6 u a.L a.it a.cc) .none).genState
noncomputable def vV(c:WC)(a:kz)(b:uL)(f:Nat)(e g:cl)(d:AL):uk:=[Ii c a.k0 a.it (Ed b e g d),dp a.le a.it (f+1:Nat),cm a.E a.VC]
noncomputable def Oy(u:WB)(a:kz)(e:Nat)(c d:cl):Seg:=
 ⟨gE a.it a.cc a.L,none,[],a.L,60,⟨lK (Pm u) a .zero 0,[],λb ω=>vV (Pm u) a .zero 0 c d b,nn,nn,nn,[⟨#[.ref e],[(c,d)]⟩],λb ω=>[⟨#[.ref (b 0)],[(c,d)]⟩]⟩,λb ω=>QC u a (.ref (b 0))⟩
variable {a:kz}
theorem Ik(f:a.E[0]?=some (.ref c)):aO u (λu=>Oy u a c k m):=by
 obtain⟨e,b1,b2⟩:=u;have d:aw ⟨e,b1,b2⟩ (λω=>sh a 0 c):=⟨λg i h=>iy f,cg⟩
 have b:aG ⟨e,b1,b2⟩ (λω=>[]):=cg
 cases b2 with
 |true=>exact sT Tm [[1,2]] [2,1,0] (aE [53,49,51,27,35]) d (R:=[.cells [0]]) (O:=_) (Q:=b)
 |false=>exact sT To [[1,2]] [2,1,0] (aE [53,49,51,27,35]) d (R:=[.cells [0]]) (O:=_) (Q:=b)
noncomputable def Oz(u:WB)(b:kz)(f:uL)(g h:Nat)(c d:cl):Seg:=let e:=QC u b .none
 ⟨iW e,some (iV e (.send .none)),gc e,b.L,60,⟨lK (Pm u) b f g,[],λa ω=>vV (Pm u) b f g c d a,nn,nn,nn,[⟨#[.ref h],[(c,d)]⟩],λa ω=>[⟨#[.ref (a 0)],[(c,d)]⟩]⟩,λa ω=>QC u b (.ref (a 0))⟩
theorem Il{v0:cl}(n:a.E[g]?=some (.ref c)):aO u (λu=>Oz u a (.one l v0 d e f h) g c k m):=by
 obtain⟨j,b1,b2⟩:=u;have i:aw ⟨j,b1,b2⟩ (λω=>sh a g c):=⟨λo q p=>iy n,cg⟩
 have b:aG ⟨j,b1,b2⟩ (λω=>[]):=cg
 cases b2 with
 |true=>exact sT Tm [[1,2]] [2,1,0] (aE [53,0,0,27,35]) i (R:=[.cells [0]]) (O:=_) (Q:=b)
 |false=>exact sT Tm [[1,2]] [2,1,0] (aE [53,0,0,27,35]) i (R:=[.cells [0]]) (O:=_) (Q:=b)
noncomputable def qm(c:WC)(a:kz)(b:uL):uk:=[Ii c a.k0 a.it b,k6 a.E.size,cm a.E a.VC]
noncomputable def Im(u:WB)(a:kz):Seg:=
 ⟨gE a.it a.cc a.L,none,[],a.L,60,⟨lK (Pm u) a .zero a.E.size,[],λb ω=>qm (Pm u) a .zero,nn,nn,nn,[],nn⟩,λb ω=>.ret (.ok .next)⟩
theorem Io:aO u (λu=>Im u a):=by
 obtain⟨d,b1,b2⟩:=u;have c:aw ⟨d,b1,b2⟩ (λω=>[λe g f=>jM a.it a.le a.E.size a.E a.VC]):=⟨λe g f=>fP (by simp),cg⟩
 have b:aG ⟨d,b1,b2⟩ (λω=>[]):=cg
 cases b2 with
 |true=>exact sT 0x10201221 [[1,2]] [2,1,0] (aE []) c (O:=_) (Q:=b)
 |false=>exact sT 0x122012120201221 [[1,2]] [2,1,0] (aE []) c (O:=_) (Q:=b)
noncomputable def Ip(u:WB)(a:kz)(c:uL):Seg:=let b:=QC u a .none
 ⟨iW b,some (iV b (.send .none)),gc b,a.L,60,⟨lK (Pm u) a c a.E.size,[],λd ω=>qm (Pm u) a c,nn,nn,nn,[],nn⟩,λd ω=>.ret (.ok .next)⟩
theorem Ee{v0:cl}:aO u (λu=>Ip u a (.one l v0 d e f h)):=by
 obtain⟨g,b1,b2⟩:=u;have c:aw ⟨g,b1,b2⟩ (λω=>[λi k j=>jM a.it a.le a.E.size a.E a.VC]):=⟨λi k j=>fP (by simp),cg⟩
 have b:aG ⟨g,b1,b2⟩ (λω=>[]):=cg
 cases b2 with
 |true=>exact sT 0x10201221 [[1,2]] [2,1,0] (aE []) c (O:=_) (Q:=b)
 |false=>exact sT 0x10201221 [[1,2]] [2,1,0] (aE []) c (O:=_) (Q:=b)
noncomputable def Yg(u:WB)(a:kz)(b:GN)(d:Nat)(e f:cl):Spec:=Ax b.ga b.g b.nm b.qn (.fresh (gE a.it a.cc a.L)) (λc=>Ij u a) (Oy u a d e f) λc=>.ref (c 0)
variable {b:GN}
theorem AE(e:a.E[0]?=some (.ref c)):OK u (Yg u a b c k m):=
 hN (λd=>o6 u a.L a.it a.cc) (Ik e) (.inl ⟨rfl,rfl,rfl⟩) ⟨_,.head _,rfl⟩ (λd=>vU u a.L a.it a.cc) (λd=>Ox u a.L a.it a.cc) λd f=>rfl
noncomputable def Tr(u:WB)(b:kz)(a:GN)(d:uL)(h e:Nat)(f i:cl):Spec:=Ax a.ga a.g a.nm a.qn (Ij u b) (λc=>Ij u b) (Oz u b d h e f i) λc=>.ref (c 0)
theorem Iq{v0:cl}(j:a.E[g]?=some (.ref c)):OK u (Tr u a b (.one l v0 d e f h) g c k m):=
 hN (λi=>o6 u a.L a.it a.cc) (Il j) (dX (vU u a.L a.it a.cc) rfl rfl rfl) ⟨_,.head _,rfl⟩ (λi=>vU u a.L a.it a.cc) (λi=>Ox u a.L a.it a.cc) λi n=>rfl
theorem Ir:OK u (hy b.ga b.g b.nm b.qn (.fresh (gE a.it a.cc a.L)) (Im u a)):=
 mc (gR _) Io (.inl ⟨rfl,rfl,rfl⟩) ⟨_,.head _,rfl⟩ λc d=>rfl
theorem It{v0:cl}:OK u (hy b.ga b.g b.nm b.qn (Ij u a) (Ip u a (.one l v0 d e f h))):=
 mc (gR _) Ee (dX (vU u a.L a.it a.cc) rfl rfl rfl) ⟨_,.head _,rfl⟩ λc i=>rfl
end
section
noncomputable def me(d:WC)(h:kz)(a:GN)(e:Nat)(b:ug)(f:Nat)(c:uL)(g:Nat):Wy aF:=[⟨e,cm b f,false⟩,⟨a.ga,a.oo,false⟩]++lK d h c g
noncomputable def jn(c:WC)(e:kz)(f:GN)(a:ug)(d:Nat)(b:uL):uk:=[cm a d,f.oo]++qm c e b
noncomputable def Iu(u:WB)(a:kz)(b:GN)(e:Nat)(c:ug)(f:Nat)(d:uL):Spec:=
 ⟨xF e b.ga,110,none,⟨me (Pm u) a b e c f d a.E.size,[(b.g,Ij u a)],λh ω=>jn (Pm u) a b c f d,λω ω=>[.finished],nn,nn,[],nn⟩,λω ω=>uj .none⟩
variable {m:Nat} {b:ug} {a:GN} {c:kz}
theorem vW(o:b.size<=1000000):aI u (λu=>Iu u c a d b e (.one k l h i j m)):=by
 have p:aw u (λu=>[λf q n=>hy a.ga a.g a.nm a.qn (Ij u c) (Ip u c (.one k l h i j m))]):=⟨λf q n=>It,cg⟩
 exact xT 0x1201221 [[1,2,3,4]] [4,3,2,1,0] (aE []) p o (G:=[[0]]) (I:=[0]) (Q:=trivial) (H:=by kernel_rfl) (hc:=rfl) (ht:=rfl)
noncomputable def OA(u:WB)(a:kz)(b:GN)(d:Nat)(c:ug)(e:Nat):Spec:=
 ⟨xF d b.ga,110,none,⟨me (Pm u) a b d c e .zero a.E.size,[(b.g,.fresh (gE a.it a.cc a.L))],λf ω=>jn (Pm u) a b c e .zero,λω ω=>[.finished],nn,nn,[],nn⟩,λω ω=>uj .none⟩
theorem Ef(i:b.size<=1000000):aI u (λu=>OA u c a d b e):=by
 have j:aw u (λu=>[λf k h=>hy a.ga a.g a.nm a.qn (.fresh (gE c.it c.cc c.L)) (Im u c)]):=⟨λf k h=>Ir,cg⟩
 exact xT 0x1201221 [[1,2,3,4]] [4,3,2,1,0] (aE []) j i (G:=[[0]]) (I:=[0]) (Q:=trivial) (H:=by kernel_rfl) (hc:=rfl) (ht:=rfl)
noncomputable def Eg(c:kz)(a b:Nat):kz:={c with E:= #[.ref a,.ref b]}
noncomputable def xJ(b:kz)(a:Nat):kz:={b with E:= #[.ref a]}
noncomputable def OB(u:WB)(f:kz)(c:GN)(l:Nat)(a:ug)(m:Nat)(i:uL)(k d:Nat)(e h:cl)(j:Wy dh):Spec:=
 ⟨xF l c.ga,115,none,⟨me (Pm u) (Eg f k d) c l a m i 1,[(c.g,Ij u f)],λb ω=>jn (Pm u) (Eg f k d) c (a++ #[.ref (b 0)]) (m+1) (Ed i e h b),λω ω=>[.finished],nn,nn,[⟨a,j⟩,⟨#[.ref d],[(e,h)]⟩],λb ω=>[⟨a++ #[.ref (b 0)],j++[(e,h)]⟩]⟩,λω ω=>uj .none⟩
theorem Eh{v0:cl}(r:b.size<1000000):aI u (λu=>OB u c a d b e (.one n v0 h i j m) f g k l M):=by
 have s:aw u (λu=>[λp q o=>Tr u (Eg c f g) a (.one n v0 h i j m) 1 g k l,λp q o=>Iu u (Eg c f g) a d (b++ #[.ref (cH o 0 0)]) (e+1) (.one k l h i (cH o 0 3) (cH o 0 4))]):=⟨λp q o=>Iq rfl,λp q o=>vW (by rw[Array.size_append];refine(?_:_+1<=_);lia),cg⟩
 exact xT 0x1201220 [[1,2,3,4],[0,1,2,3,4]] [4,3,2,1,0] (aE [0,0,0,6,8]) s (Nat.le_of_lt r) (G:=[[0],[0]]) (J:=[[.UO 1],[]]) (I:=[0]) (R:=[.app (.UO 1) (.UO 0)]) (Q:=trivial) (H:=by kernel_rfl) (hc:=rfl) (ht:=rfl)
noncomputable def OC(u:WB)(a:kz)(d:GN)(j:Nat)(b:ug)(k:Nat)(e:Nat)(f h:cl)(i:Wy dh):Spec:=
 ⟨xF j d.ga,115,none,⟨me (Pm u) (xJ a e) d j b k .zero 0,[(d.g,.fresh (gE a.it a.cc a.L))],λc ω=>jn (Pm u) (xJ a e) d (b++ #[.ref (c 0)]) (k+1) (Ed .zero f h c),λω ω=>[.finished],nn,nn,[⟨b,i⟩,⟨#[.ref e],[(f,h)]⟩],λc ω=>[⟨b++ #[.ref (c 0)],i++[(f,h)]⟩]⟩,λω ω=>uj .none⟩
theorem Ei(j:b.size<1000000):aI u (λu=>OC u c a d b e f k l M):=by
 have m:aw u (λu=>[λh i g=>Yg u (xJ c f) a f k l,λh i g=>Iu u (xJ c f) a d (b++ #[.ref (cH g 0 0)]) (e+1) (.one k l (cH g 0 1) (cH g 0 2) (cH g 0 3) (cH g 0 4))]):=⟨λh i g=>AE rfl,λh i g=>vW (by rw[Array.size_append];refine(?_:_+1<=_);lia),cg⟩
 exact xT 0x1201220 [[1,2,3,4],[0,1,2,3,4]] [4,3,2,1,0] (aE [0,2,4,6,8]) m (Nat.le_of_lt j) (G:=[[0],[0]]) (J:=[[.UO 1],[]]) (I:=[0]) (R:=[.app (.UO 1) (.UO 0)]) (Q:=trivial) (H:=by kernel_rfl) (hc:=rfl) (ht:=rfl)
noncomputable def OD(u:WB)(b:kz)(d:GN)(k:Nat)(c:ug)(l:Nat)(e f:Nat)(m n h i:cl)(j:Wy dh):Spec:=
 ⟨xF k d.ga,118,none,⟨me (Pm u) (Eg b e f) d k c l .zero 0,[(d.g,.fresh (gE b.it b.cc b.L))],λa ω=>jn (Pm u) (Eg b e f) d (c++ #[.ref (a 0)]++ #[.ref (a 1)]) (l+1+1) (.one h i (a 2) (a 3) (a 4) (a 5)),λω ω=>[.finished],nn,nn,[⟨c,j⟩,⟨#[.ref e],[(m,n)]⟩,⟨#[.ref f],[(h,i)]⟩],λa ω=>[⟨c++ #[.ref (a 0)]++ #[.ref (a 1)],j++[(m,n)]++[(h,i)]⟩]⟩,λω ω=>uj .none⟩
theorem Ej{m:cl}(p:b.size+1<1000000):aI u (λu=>OD u c a d b e f g k l m n M):=by
 have o:aw u (λu=>[λi j h=>Yg u (Eg c f g) a f k l,λi j h=>OB u c a d (b++ #[.ref (cH h 0 0)]) (e+1) (.one k l (cH h 0 1) (cH h 0 2) (cH h 0 3) (cH h 0 4)) f g m n (M++[(k,l)])]):=⟨λi j h=>AE rfl,λi j h=>Eh (by rw[Array.size_append];refine(?_:_+1<_);lia),cg⟩
 exact xT 0x1201220 [[1,2,3,4],[0,1,2,3,4]] [4,3,2,1,0] (aE [0,1,2,4,13,17]) o (show b.size<=1000000 by lia) (G:=[[0],[0]]) (J:=[[.UO 1],[.app (.UO 1) (.UO 0),.UO 3]]) (I:=[0]) (R:=[.UO 0]) (Q:=trivial) (H:=by kernel_rfl) (hc:=rfl) (ht:=rfl)
noncomputable def RS(a b:Nat):Code:= .builtin "list.extend" ⟨[.ref a,.ref b],[]⟩
noncomputable def Iv(u:WB)(a:kz)(b:GN)(d:Nat)(c:ug)(e:Nat):Spec:=
 ⟨RS d b.ga,130,none,⟨me (Pm u) {a with E:= #[]} b d c e .zero 0,[(b.g,.fresh (gE a.it a.cc a.L))],λf ω=>jn (Pm u) {a with E:= #[]} b c (e+1+1) .zero,λω ω=>[.finished],nn,nn,[],nn⟩,λω ω=>uj .none⟩
theorem AF(g:b.size<1000000):aI u (λu=>Iv u c a d b e):=
 eT 0x101 [[0,1,2,3,4]] [4,3,2,1,0] (λf h=>dI f) ⟨λi k j=>Ef (Nat.le_of_lt g),cg⟩ (Nat.le_of_lt g) (Y:=λu=>[λi k j=>OA u {c with E:= #[]} a d b (e+1+1)]) (G:=[[0]]) (J:=[[]]) (I:=[0]) (Z:=(λf h=>h)) (Q:=trivial) (H:=by kernel_rfl) (hc:=rfl) (ht:=rfl)
noncomputable def Iw(u:WB)(a:kz)(d:GN)(j:Nat)(b:ug)(k:Nat)(e:Nat)(f h:cl)(i:Wy dh):Spec:=
 ⟨RS j d.ga,130,none,⟨me (Pm u) (xJ a e) d j b k .zero 0,[(d.g,.fresh (gE a.it a.cc a.L))],λc ω=>jn (Pm u) (xJ a e) d (b++ #[.ref (c 0)]) (k+1+1+1) (Ed .zero f h c),λω ω=>[.finished],nn,nn,[⟨b,i⟩,⟨#[.ref e],[(f,h)]⟩],λc ω=>[⟨b++ #[.ref (c 0)],i++[(f,h)]⟩]⟩,λω ω=>uj .none⟩
theorem AG(h:b.size<1000000):aI u (λu=>Iw u c a d b e f k l M):=
 eT 0x101 [[0,1,2,3,4]] [4,3,2,1,0] (λg i=>dI g) ⟨λj n m=>Ei h,cg⟩ (Nat.le_of_lt h) (Y:=λu=>[λj n m=>OC u c a d b (e+1+1) f k l M]) (G:=[[0]]) (J:=[[.UO 0,.UO 1]]) (I:=[0]) (R:=[.UO 0]) (Z:=(λg i=>i)) (Q:=trivial) (H:=by kernel_rfl) (hc:=rfl) (ht:=rfl)
noncomputable def Ix(u:WB)(b:kz)(d:GN)(k:Nat)(c:ug)(l:Nat)(e f:Nat)(m n h i:cl)(j:Wy dh):Spec:=
 ⟨RS k d.ga,130,none,⟨me (Pm u) (Eg b e f) d k c l .zero 0,[(d.g,.fresh (gE b.it b.cc b.L))],λa ω=>jn (Pm u) (Eg b e f) d (c++ #[.ref (a 0)]++ #[.ref (a 1)]) (l+1+1+1+1) (.one h i (a 2) (a 3) (a 4) (a 5)),λω ω=>[.finished],nn,nn,[⟨c,j⟩,⟨#[.ref e],[(m,n)]⟩,⟨#[.ref f],[(h,i)]⟩],λa ω=>[⟨c++ #[.ref (a 0)]++ #[.ref (a 1)],j++[(m,n)]++[(h,i)]⟩]⟩,λω ω=>uj .none⟩
theorem AH{m:cl}(p:b.size+1<1000000):aI u (λu=>Ix u c a d b e f g k l m n M):=
 eT 0x101 [[0,1,2,3,4]] [4,3,2,1,0] (λh i=>dI h) ⟨λj q o=>Ej p,cg⟩ (show b.size<=1000000 by lia) (Y:=λu=>[λj q o=>OD u c a d b (e+1+1) f g k l m n M]) (G:=[[0]]) (J:=[[.UO 0,.UO 1,.UO 2]]) (I:=[0]) (R:=[.UO 0]) (Z:=(λh i=>i)) (Q:=trivial) (H:=by kernel_rfl) (hc:=rfl) (ht:=rfl)
end
section
noncomputable def Iy(b:Wz):Nat:=match b with
 | .ref a=>a
 |_=>0
noncomputable def RT(d:uk)(b:Nat):Nat:=match d[b]? with
 |some c=>(match c.data with| .dict a _=>(match a.toList with|e::_=>df e.key|[]=>0)|_=>0)
 |none=>0
noncomputable def OE(c:uk)(a:Nat):Nat:=match ky c a 0 with
 | .int (.ofNat b) _=>b
 |_=>0
noncomputable def xK(a:uk)(c b:Nat):kz:=⟨Iy (l8 a 5 1),Iy (l8 a 5 0),Iy (l8 a 5 2),c,b,RT a 2,#[]⟩
noncomputable def xL(c:Code)(a:uk):GN:=⟨ad c 1,OE a 1,ky a 1 1,ky a 1 2⟩
noncomputable def fG(a:Nat):gi:=⟨.none,none,.fields #[.int 780 0,.int 23 0,.ref a],#[]⟩
noncomputable def jH(b:Nat)(c:AL->AL):AL->AL:=λa=>c (cn b a)
noncomputable def SX.Vw(a:SX):SX:={a with U3:=a.U3+1+1}
noncomputable def SX.Vu(a:SX)(b:Nat)(c:dh):SX:={a with A:=a.A++ #[.ref b],U3:=a.U3+1+1+1,R:=a.R++[c]}
noncomputable def SX.ext2(a:SX)(b c:Nat)(d e:dh):SX:={a with A:=a.A++ #[.ref b]++ #[.ref c],U3:=a.U3+1+1+1+1,R:=a.R++[d]++[e]}
noncomputable def AI(d:WC)(b n:SX)(c:gi)(l g:Nat)(E:ug)(f:Nat)(k:Wy jz)(i:WA cl)(e:cl)(h:Wy Ev)(m:AL->AL)(j:AL->ug):Spec:=
 ⟨.block (qg 15) (iJ b.L),175,some b.L,⟨b.pre d c++[⟨l,cm E g,false⟩,⟨693,fG f,false⟩],[],λa ω=>n.post d c (optN i) (qi i (j a) (a 1))++[cm E g,fG f],nn,λa ω=>[⟨a 0,cp (h9 h e) (m a) (bX e 2 h),false⟩],nn,⟨b.A,b.R⟩::k,nn⟩,λa ω=>uj (.ref (a 0))⟩
noncomputable def RO:Nat:=0x114444307f012000002203550151010700111001723
variable {f:AL->AL} {d:Wy Ev} {g:Wy WL} {h:CM} {a:SX}
theorem AJ{e c i n:Nat}(p:a.A.size<1000000)(o:OK u (jm (Pm u) a.Vw (d5 (Pm u) {h with extra:= .ref c} y g e) V k d f)):aI u (λu=>AI (Pm u) a a.Vw (d5 (Pm u) {h with extra:= .ref c} y g e) c i #[] n [] V k d (jH 5 f) λω=>a.A):=by
 have q:aw u (λu=>[λb j l=>Iv u (xK j c i) (xL b j) (ad b 0) a.A a.U3,λb j l=>jm (Pm u) a.Vw (d5 (Pm u) {h with extra:= .ref c} y g e) V k d f]):=⟨λb j l=>AF p,λb j l=>o,cg⟩
 exact gT RO [[6,0,1,2,7],[3,4,5,6]] [5,4,3,2,1,0,9] (dT [9,13,0,0,0] λm=>dI (odd (cn 8 m))) q (G:=[[0],[]]) (J:=[[],[.UO 0]]) (Q:=trivial) (H:=by kernel_rfl) (hc:=by kernel_rfl) (h1:=by kernel_rfl) (h2:=by kernel_rfl) (h3:=by kernel_rfl) (h4:=by kernel_rfl) (h5:=by kernel_rfl)
variable {b:dh}
theorem AK{e c i n j:Nat}(r:a.A.size<1000000)(q:∀t,OK u (jm (Pm u) (a.Vu t b) (d5 (Pm u) {h with extra:= .ref c} y g e) V k d f)):aI u (λu=>AI (Pm u) a (a.Vu 0 b) (d5 (Pm u) {h with extra:= .ref c} y g e) c i #[.ref j] n [⟨#[.ref j],[b]⟩] V k d (jH 5 f) λp=>a.A++ #[.ref (p 2)]):=by
 have s:aw u (λu=>[λl m o=>Iw u (xK m c i) (xL l m) (ad l 0) a.A a.U3 j b.1 b.2 a.R,λl m o=>jm (Pm u) (a.Vu (cH o 0 0) b) (d5 (Pm u) {h with extra:= .ref c} y g e) V k d f]):=⟨λl m o=>AG r,λl m o=>q _,cg⟩
 exact gT RO [[6,0,1,2,7],[3,4,5,6]] [5,4,3,2,1,0,9] (dT [9,13,8,0,0] λp=>dI (odd (cn 8 p))) s (G:=[[0],[]]) (J:=[[.UO 0,.UO 1],[.UO 0]]) (Q:=trivial) (H:=by kernel_rfl) (hc:=by kernel_rfl) (h1:=by kernel_rfl) (h2:=by kernel_rfl) (h3:=by kernel_rfl) (h4:=by kernel_rfl) (h5:=by kernel_rfl)
variable {l:dh}
theorem AM{e c i n j m:Nat}(t:a.A.size+1<1000000)(s:∀w x,OK u (jm (Pm u) (a.ext2 w x b l) (d5 (Pm u) {h with extra:= .ref c} y g e) V k d f)):aI u (λu=>AI (Pm u) a (a.ext2 0 0 b l) (d5 (Pm u) {h with extra:= .ref c} y g e) c i #[.ref j,.ref m] n [⟨#[.ref j],[b]⟩,⟨#[.ref m],[l]⟩] V k d (jH 5 f) λr=>a.A++ #[.ref (r 2)]++ #[.ref (r 3)]):=by
 have v:aw u (λu=>[λo q p=>Ix u (xK q c i) (xL o q) (ad o 0) a.A a.U3 j m b.1 b.2 l.1 l.2 a.R,λo q p=>jm (Pm u) (a.ext2 (cH p 0 0) (cH p 0 1) b l) (d5 (Pm u) {h with extra:= .ref c} y g e) V k d f]):=⟨λo q p=>AH t,λo q p=>s _ _,cg⟩
 exact gT RO [[6,0,1,2,7],[3,4,5,6]] [5,4,3,2,1,0,9] (dT [9,13,8,10,0] λr=>dI (odd (cn 8 r))) v (G:=[[0],[]]) (J:=[[.UO 0,.UO 1,.UO 2],[.UO 0]]) (Q:=trivial) (H:=by kernel_rfl) (hc:=by kernel_rfl) (h1:=by kernel_rfl) (h2:=by kernel_rfl) (h3:=by kernel_rfl) (h4:=by kernel_rfl) (h5:=by kernel_rfl)
noncomputable def Uf:Str:=lq "Commit._serialize.<locals>.<genexpr>"
noncomputable def Ug(d b c a e:Nat):ui:=[.str (lq "/claim/cut.py") d,.int 780 0,.int 1 0,.int 0 0,.int 0 0,.int 51 0,.ref b,.bool true,.int 181 0,.ref c,.none,.none,.none,.none,.int (a:Nat) 0,.int 780 0,.str (lq "/claim/cut.py") e]
noncomputable def OF(a c f d e b g:Nat):gi:=dq (.str (lq "<genexpr>") a) Uf c (Ug f d e b g)
noncomputable def AN(d:WC)(b m:SX)(c:gi)(k f:Nat)(E:ug)(j:Wy jz)(h:WA cl)(e:cl)(g:Wy Ev)(l:AL->AL)(i:AL->ug):Spec:=
 ⟨.block (qg 15) (iJ b.L),175,some b.L,⟨b.pre d c++[⟨k,cm E f,false⟩,⟨693,aT,false⟩],[],λa ω=>m.post d c (optN h) (qi h (i a) (a 1))++[cm E f,fG (a 4)],nn,λa ω=>[⟨a 0,cp (h9 g e) (l a) (bX e 2 g),false⟩,⟨a 4,OF (a 5) (a 6) (a 7) (a 8) (a 9) (a 10) (a 11),false⟩],nn,⟨b.A,b.R⟩::j,nn⟩,λa ω=>uj (.ref (a 0))⟩
noncomputable def RP:Nat:=0x114444307f0120000022035501510107000aaa00111001a23
theorem AO{e c i:Nat}(o:a.A.size<1000000)(n:OK u (jm (Pm u) a.Vw (d5 (Pm u) {h with extra:= .ref c} y g e) V k d f)):aI u (λu=>AN (Pm u) a a.Vw (d5 (Pm u) {h with extra:= .ref c} y g e) c i #[] [] V k d (jH 12 f) λω=>a.A):=by
 have p:aw u (λu=>[λb j l=>Iv u (xK j c i) (xL b j) (ad b 0) a.A a.U3,λb j l=>jm (Pm u) a.Vw (d5 (Pm u) {h with extra:= .ref c} y g e) V k d f]):=⟨λb j l=>AF o,λb j l=>n,cg⟩
 exact gT RP [[9,0,1,5,10],[6,7,8,9]] [5,4,3,2,1,0,12,9] (dT [17,21,0,0,9,2,3,4,5,6,7,8] λm=>dI (odd (cn 16 m))) p (G:=[[0],[]]) (J:=[[],[.UO 0]]) (Q:=trivial) (H:=by kernel_rfl) (hc:=by kernel_rfl) (h1:=by kernel_rfl) (h2:=by kernel_rfl) (h3:=by kernel_rfl) (h4:=by kernel_rfl) (h5:=by kernel_rfl)
theorem AP{e c i j:Nat}(q:a.A.size<1000000)(p:∀s,OK u (jm (Pm u) (a.Vu s b) (d5 (Pm u) {h with extra:= .ref c} y g e) V k d f)):aI u (λu=>AN (Pm u) a (a.Vu 0 b) (d5 (Pm u) {h with extra:= .ref c} y g e) c i #[.ref j] [⟨#[.ref j],[b]⟩] V k d (jH 12 f) λo=>a.A++ #[.ref (o 2)]):=by
 have r:aw u (λu=>[λl m n=>Iw u (xK m c i) (xL l m) (ad l 0) a.A a.U3 j b.1 b.2 a.R,λl m n=>jm (Pm u) (a.Vu (cH n 0 0) b) (d5 (Pm u) {h with extra:= .ref c} y g e) V k d f]):=⟨λl m n=>AG q,λl m n=>p _,cg⟩
 exact gT RP [[9,0,1,5,10],[6,7,8,9]] [5,4,3,2,1,0,12,9] (dT [17,21,16,0,9,2,3,4,5,6,7,8] λo=>dI (odd (cn 16 o))) r (G:=[[0],[]]) (J:=[[.UO 0,.UO 1],[.UO 0]]) (Q:=trivial) (H:=by kernel_rfl) (hc:=by kernel_rfl) (h1:=by kernel_rfl) (h2:=by kernel_rfl) (h3:=by kernel_rfl) (h4:=by kernel_rfl) (h5:=by kernel_rfl)
theorem AQ{e c i j m:Nat}(s:a.A.size+1<1000000)(r:∀v w,OK u (jm (Pm u) (a.ext2 v w b l) (d5 (Pm u) {h with extra:= .ref c} y g e) V k d f)):aI u (λu=>AN (Pm u) a (a.ext2 0 0 b l) (d5 (Pm u) {h with extra:= .ref c} y g e) c i #[.ref j,.ref m] [⟨#[.ref j],[b]⟩,⟨#[.ref m],[l]⟩] V k d (jH 12 f) λq=>a.A++ #[.ref (q 2)]++ #[.ref (q 3)]):=by
 have t:aw u (λu=>[λn p o=>Ix u (xK p c i) (xL n p) (ad n 0) a.A a.U3 j m b.1 b.2 l.1 l.2 a.R,λn p o=>jm (Pm u) (a.ext2 (cH o 0 0) (cH o 0 1) b l) (d5 (Pm u) {h with extra:= .ref c} y g e) V k d f]):=⟨λn p o=>AH s,λn p o=>r _ _,cg⟩
 exact gT RP [[9,0,1,5,10],[6,7,8,9]] [5,4,3,2,1,0,12,9] (dT [17,21,16,18,9,2,3,4,5,6,7,8] λq=>dI (odd (cn 16 q))) t (G:=[[0],[]]) (J:=[[.UO 0,.UO 1,.UO 2],[.UO 0]]) (Q:=trivial) (H:=by kernel_rfl) (hc:=by kernel_rfl) (h1:=by kernel_rfl) (h2:=by kernel_rfl) (h3:=by kernel_rfl) (h4:=by kernel_rfl) (h5:=by kernel_rfl)
end
section
noncomputable def xA(a:ug)(d b c:Nat):ug:=match d with
 |0=>a
 |1=>a++ #[.ref b]
 |_=>a++ #[.ref b]++ #[.ref c]
noncomputable def SX.VQ(b:SX)(c e:Nat)(f:Wy dh):SX:=match f with
 |[]=>b.Vw
 |[a]=>b.Vu c a
 |a::d::_=>b.ext2 c e a d
noncomputable def SX.Vz(f:WC)(a:SX)(e:gi)(b:ug)(g:Nat)(E:ug)(h:Nat)(i:gi):uk:=[r7 f a.c a.hl a.k1 a.k2 a.tl a.n,eu 888 a.d,e,cm b g,cm E h,i]
noncomputable def SX.VR(b:WC)(f:SX)(a:gi)(d:Nat)(E:ug)(c:Nat)(e:gi):Wy aF:=f.pre b a++[⟨d,cm E c,false⟩,⟨693,e,false⟩]
noncomputable def o7(d:WC)(b:SX)(c:gi)(l g:Nat)(E:ug)(i:Nat)(k:Wy dh)(f:Nat)(j:WA cl)(e:cl)(h:Wy Ev)(m:AL->AL):Spec:=
 ⟨.block (qg 15) (iJ b.L),175,some b.L,⟨b.VR d c l E g (fG f),[],λa ω=>b.Vz d c (qi j (xA b.A i (a 2) (a 3)) (a 1)) (b.U3+(2+i)+optN j) E g (fG f),nn,λa ω=>[⟨a 0,cp (h9 h e) (m a) (bX e 2 h),false⟩],nn,[⟨b.A,b.R⟩,⟨E,k⟩],nn⟩,λa ω=>uj (.ref (a 0))⟩
noncomputable def o8(d:WC)(b:SX)(c:gi)(k f:Nat)(E:ug)(h:Nat)(j:Wy dh)(i:WA cl)(e:cl)(g:Wy Ev)(l:AL->AL):Spec:=
 ⟨.block (qg 15) (iJ b.L),175,some b.L,⟨b.VR d c k E f aT,[],λa ω=>b.Vz d c (qi i (xA b.A h (a 2) (a 3)) (a 1)) (b.U3+(2+h)+optN i) E f (fG (a 4)),nn,λa ω=>[⟨a 0,cp (h9 g e) (l a) (bX e 2 g),false⟩,⟨a 4,OF (a 5) (a 6) (a 7) (a 8) (a 9) (a 10) (a 11),false⟩],nn,[⟨b.A,b.R⟩,⟨E,j⟩],nn⟩,λa ω=>uj (.ref (a 0))⟩
variable {l:Nat}
theorem OG{a:Heap}{b:jz}{c d:dh}(g:dV a b)(f:dV a ⟨#[.ref j,.ref l],[c,d]⟩):∀B∈[b,⟨#[.ref j],[c]⟩,⟨#[.ref l],[d]⟩],dV a B:=λB e=>by
 rcases t6 e with rfl|e
 ·exact g
 ·rcases t6 e with rfl|e
  ·exact dV.at f (i:=0) rfl rfl
  ·rcases t6 e with rfl|e
   ·exact dV.at f (i:=1) rfl rfl
   ·cases e
variable {f:AL->AL} {d:Wy Ev} {m:Nat} {g:Wy WL} {b:CM} {a:SX}
theorem Ek(s:M.length<=2)(G:a.A.size<=100000)(x:b.extra= .ref c)(q:∀p v,OK u (jm (Pm u) (a.VQ p v M) (d5 (Pm u) b y g e) V k d f)):OK u (o7 (Pm u) a (d5 (Pm u) b y g e) c h (ei M.length j l) M.length M m V k d (jH 5 f)):=by
 have z:b={b with extra:= .ref c}:=by cases b;simp only at x;subst x;rfl
 rw[z]at q|-
 match M,s with
 |[],_=>exact ct.more (bs:=[⟨a.A,a.R⟩]) ((AJ (by lia) (q 0 0)).alt rfl rfl rfl rfl rfl rfl λn o=>⟨n,o,rfl,rfl,rfl,rfl,rfl,rfl⟩) λw i B r=>i B (List.mem_of_mem_head? (by cases r with|head=>rfl|tail _ C=>cases C))
 |[t],_=>exact ct.more (bs:=[⟨a.A,a.R⟩,⟨#[.ref j],[t]⟩]) ((AK (by lia) λp=>q p 0).alt rfl rfl rfl rfl rfl rfl λn o=>⟨n,o,rfl,rfl,rfl,rfl,rfl,rfl⟩) λw i B r=>i B r
 |[t,D],_=>exact ct.more (bs:=[⟨a.A,a.R⟩,⟨#[.ref j],[t]⟩,⟨#[.ref l],[D]⟩]) ((AM (by lia) λp v=>q p v).alt rfl rfl rfl rfl rfl rfl λn o=>⟨n,o,rfl,rfl,rfl,rfl,rfl,rfl⟩) λw i=>OG (i _ (.head _)) (i _ (.tail _ (.head _)))
 |_::_::_::_,s=>exact absurd s (by simp)
theorem El(r:M.length<=2)(D:a.A.size<=100000)(w:b.extra= .ref c)(p:∀o t,OK u (jm (Pm u) (a.VQ o t M) (d5 (Pm u) b y g e) V k d f)):OK u (o8 (Pm u) a (d5 (Pm u) b y g e) c h (ei M.length j l) M.length M V k d (jH 12 f)):=by
 have x:b={b with extra:= .ref c}:=by cases b;simp only at w;subst w;rfl
 rw[x]at p|-
 match M,r with
 |[],_=>exact ct.more (bs:=[⟨a.A,a.R⟩]) ((AO (by lia) (p 0 0)).alt rfl rfl rfl rfl rfl rfl λm n=>⟨m,n,rfl,rfl,rfl,rfl,rfl,rfl⟩) λv i B q=>i B (List.mem_of_mem_head? (by cases q with|head=>rfl|tail _ z=>cases z))
 |[s],_=>exact ct.more (bs:=[⟨a.A,a.R⟩,⟨#[.ref j],[s]⟩]) ((AP (by lia) λo=>p o 0).alt rfl rfl rfl rfl rfl rfl λm n=>⟨m,n,rfl,rfl,rfl,rfl,rfl,rfl⟩) λv i B q=>i B q
 |[s,C],_=>exact ct.more (bs:=[⟨a.A,a.R⟩,⟨#[.ref j],[s]⟩,⟨#[.ref l],[C]⟩]) ((AQ (by lia) λo t=>p o t).alt rfl rfl rfl rfl rfl rfl λm n=>⟨m,n,rfl,rfl,rfl,rfl,rfl,rfl⟩) λv i=>OG (i _ (.head _)) (i _ (.tail _ (.head _)))
 |_::_::_::_,r=>exact absurd r (by simp)
noncomputable def si(d:WC)(b:SX)(c:gi)(m h:Nat)(E:ug)(j:Nat)(l:Wy dh)(f:Nat)(g k:WA cl)(e:cl)(i:Wy Ev)(n:AL->AL):Spec:=
 ⟨.block (qg 14) (iJ b.L),180,some b.L,⟨b.VR d c m E h (fG f),[],λa ω=>b.Vz d c (qi k (xA (qi g b.A (a 4)) j (a 2) (a 3)) (a 1)) (b.U3+optN g+(2+j)+optN k) E h (fG f),nn,λa ω=>[⟨a 0,cp (h9 i e) (n a) (bX e 2 i),false⟩],nn,[⟨b.A,b.R⟩,⟨E,l⟩],nn⟩,λa ω=>uj (.ref (a 0))⟩
noncomputable def sj(d:WC)(b:SX)(c:gi)(l g:Nat)(E:ug)(i:Nat)(k:Wy dh)(f j:WA cl)(e:cl)(h:Wy Ev)(m:AL->AL):Spec:=
 ⟨.block (qg 14) (iJ b.L),180,some b.L,⟨b.VR d c l E g aT,[],λa ω=>b.Vz d c (qi j (xA (qi f b.A (a 12)) i (a 2) (a 3)) (a 1)) (b.U3+optN f+(2+i)+optN j) E g (fG (a 4)),nn,λa ω=>[⟨a 0,cp (h9 h e) (m a) (bX e 2 h),false⟩,⟨a 4,OF (a 5) (a 6) (a 7) (a 8) (a 9) (a 10) (a 11),false⟩],nn,[⟨b.A,b.R⟩,⟨E,k⟩],nn⟩,λa ω=>uj (.ref (a 0))⟩
theorem AR{E:ug}(o:OK u (o7 (Pm u) a (d5 (Pm u) {b with enc:= .none} y g e) c h E i M m V k d f)):aI u (λu=>si (Pm u) a (d5 (Pm u) {b with enc:= .none} y g e) c h E i M m none V k d (jH 5 f)):=
 bT H5 [[1,2,3,4,5,6]] [5,4,3,2,1,0,7] (dT [5,7,9,11,0] λj=>dI (cn 5 j)) ⟨λl p n=>o,cg⟩ (Y:=λu=>[λl p n=>o7 (Pm u) a (d5 (Pm u) {b with enc:= .none} y g e) c h E i M m V k d f]) (J:=[[.UO 0,.UO 1]])
variable {n:Nat}
theorem AS{l:cl}{E:ug}(v:l.size=n+1)(x:l.size<=1000000)(t:a.A.size<=1000000)(s:∀w,OK u (o7 (Pm u) (a.app w (az .encoding,l)) (d5 (Pm u) {b with enc:= .bytes l j} y g e) c h E i M m V k d f)):aI u (λu=>si (Pm u) a (d5 (Pm u) {b with enc:= .bytes l j} y g e) c h E i M m (some l) V k d (jH 5 f)):=
 bT JW [[],[6],[3,4,5,6,7,8]] [5,4,3,2,1,0,9] (dT [20,28,36,44,16] λr=>dI (odd (cn 6 (odd (cn 5 r))))) ⟨λp o q=>aD (by rw[v]) (by lia),fU t,λp o q=>s _,cg⟩ (Y:=λu=>[fl l ((n+1:Nat):Int),mn a.A,λp o q=>o7 (Pm u) (a.app (l8 o 6 1) (az .encoding,l)) (d5 (Pm u) {b with enc:= .bytes l j} y g e) c h E i M m V k d f]) (J:=[[],[],[.app (.UO 0) (.cells [0]),.UO 1]])
theorem AU{E:ug}(n:OK u (o8 (Pm u) a (d5 (Pm u) {b with enc:= .none} y g e) c h E i M V k d f)):aI u (λu=>sj (Pm u) a (d5 (Pm u) {b with enc:= .none} y g e) c h E i M none V k d (jH 13 f)):=
 bT H5 [[1,2,3,4,5,6]] [5,4,3,2,1,0,8,7] (dT [5,7,9,11,13,15,17,19,21,23,25,27,0] λj=>dI (cn 5 j)) ⟨λl o m=>n,cg⟩ (Y:=λu=>[λl o m=>o8 (Pm u) a (d5 (Pm u) {b with enc:= .none} y g e) c h E i M V k d f]) (J:=[[.UO 0,.UO 1]])
theorem AV{l:cl}{E:ug}(t:l.size=n+1)(w:l.size<=1000000)(s:a.A.size<=1000000)(r:∀v,OK u (o8 (Pm u) (a.app v (az .encoding,l)) (d5 (Pm u) {b with enc:= .bytes l j} y g e) c h E i M V k d f)):aI u (λu=>sj (Pm u) a (d5 (Pm u) {b with enc:= .bytes l j} y g e) c h E i M (some l) V k d (jH 13 f)):=
 bT JW [[],[6],[3,4,5,6,7,8]] [5,4,3,2,1,0,10,9] (dT [20,28,36,44,52,60,68,76,84,92,100,108,16] λq=>dI (odd (cn 6 (odd (cn 5 q))))) ⟨λo m p=>aD (by rw[t]) (by lia),fU s,λo m p=>r _,cg⟩ (Y:=λu=>[fl l ((n+1:Nat):Int),mn a.A,λo m p=>o8 (Pm u) (a.app (l8 m 6 1) (az .encoding,l)) (d5 (Pm u) {b with enc:= .bytes l j} y g e) c h E i M V k d f]) (J:=[[],[],[.app (.UO 0) (.cells [0]),.UO 1]])
end
section
variable {i:AL->AL} {d:Wy Ev} {h:WA cl} {m l:Nat} {j:Wy WL} {b:SX}
theorem Em{a:CM}{E:ug}(w:ko V)(t:b.A.size<=1000000)(o:a.enc=iX V l)(n:∀x,OK u (o7 (Pm u) (b.opt V (az .encoding) x) (d5 (Pm u) a y j f) c e E g M m h k d i)):OK u (si (Pm u) b (d5 (Pm u) a y j f) c e E g M m V h k d (jH 5 i)):=by
 cases V with
 |none=>
  have q:a={a with enc:= .none}:=by cases a;simp only at o;subst o;rfl
  rw[q]at n|-;exact AR (n .none)
 |some p=>
  have q:a={a with enc:= .bytes p l}:=by cases a;simp only at o;subst o;rfl
  rw[q]at n|-;obtain⟨z,s⟩:=w p rfl;obtain⟨r,v⟩:∃r,p.size=r+1:=⟨p.size-1,by lia⟩;exact AS v s t n
theorem En{a:CM}{E:ug}(v:ko V)(s:b.A.size<=1000000)(n:a.enc=iX V l)(m:∀w,OK u (o8 (Pm u) (b.opt V (az .encoding) w) (d5 (Pm u) a y j f) c e E g M h k d i)):OK u (sj (Pm u) b (d5 (Pm u) a y j f) c e E g M V h k d (jH 13 i)):=by
 cases V with
 |none=>
  have p:a={a with enc:= .none}:=by cases a;simp only at n;subst n;rfl
  rw[p]at m|-;exact AU (m .none)
 |some o=>
  have p:a={a with enc:= .bytes o l}:=by cases a;simp only at n;subst n;rfl
  rw[p]at m|-;obtain⟨x,r⟩:=v o rfl;obtain⟨q,t⟩:∃q,o.size=q+1:=⟨o.size-1,by lia⟩;exact AV t r s m
structure SD where
 i1:Fin 3
 j1:Fin 4
 z1:Fin 6
 i2:Fin 3
 j2:Fin 4
 z2:Fin 6
 tree:cl
 ps:Wy cl
 en:WA cl
 xs:Wy dh
 sg:WA cl
 body:cl
noncomputable def Iz(a:SD)(g c:Wz)(f:Bool)(e d:Nat)(b:AL):CM:=⟨g,c,f,.ref e,iX a.en (b 0),iX a.sg (b 1),.ref d,.bool (aC a.z1).2.2,.bool (aC a.z2).2.2,.bytes a.tree (b 2),.bytes a.body (b 3),.bytes (dv a.i1) (b 4),.int (dt.getD a.j1.val 0) (b 5),.int (aC a.z1).2.1 (b 6),.bytes (dv a.i2) (b 7),.int (dt.getD a.j2.val 0) (b 8),.int (aC a.z2).2.1 (b 9)⟩
noncomputable def OH(d:Nat)(a:WC)(c:CM)(b:AL):Wy WL:=match d with
 |0=>Gk a c b
 |_=>Gl a c b
noncomputable def o9(d:Nat)(a:WC)(c:CM)(b:AL):gi:=d5 a c b (OH d a c b) 18
noncomputable def d9(a:Wy dh)(c:WA cl)(b:cl):Wy dh:=match c with
 |none=>a
 |some d=>a++[(b,d)]
noncomputable def nL(a:Wy dh)(d:Wy dh):Wy dh:=match d with
 |[]=>a
 |[b]=>a++[b]
 |b::c::_=>a++[b]++[c]
noncomputable def AW(a:SD):dh:=(az .UK,dk a.i1 a.j1 a.z1)
noncomputable def AX(a:SD):dh:=(az .UL,dk a.i2 a.j2 a.z2)
noncomputable def pa(a:SD):Wy dh:=((az .tree,a.tree)::jP a.ps)++[AW a]++[AX a]
noncomputable def xM(a:SD):Wy dh:=d9 (nL (d9 (pa a) a.en (az .encoding)) a.xs) a.sg (az .sig)
theorem vX(c:SX)(a:WA cl)(b:cl)(d:Wz):(c.opt a b d).R=d9 c.R a b:=by cases a<;>rfl
theorem Gn(b:SX)(d e:Nat)(a:Wy dh):(b.VQ d e a).R=nL b.R a:=by
 match a with
 |[]=>rfl
 |[c]=>rfl
 |c::f::_=>rfl
theorem vY(a:SX)(b:WA cl)(d:cl)(c:Wz):(a.opt b d c).A.size<=a.A.size+1:=by
 cases b with
 |none=>exact Nat.le_succ _
 |some e=>show(a.A++ #[c]).size<=_;rw[Array.size_append];exact Nat.le_refl _
theorem Go(a:SX)(d e:Nat)(b:Wy dh):(a.VQ d e b).A.size<=a.A.size+2:=by
 match b with
 |[]=>exact Nat.le_add_right _ _
 |[c]=>show(a.A++ #[_]).size<=_;rw[Array.size_append];refine(?_:_+1<=_);lia
 |c::f::_=>show(a.A++ #[_]++ #[_]).size<=_;rw[Array.size_append,Array.size_append];exact Nat.le_refl _
structure mr(v:SD)(Vp:Wy Ev):Prop where
 ps:v.ps.length<=3
 xs:v.xs.length<=2
 en:ko v.en
 sg:ko v.sg
 body:v.body.size<=1000000
 ev:Ih (xM v) Vp
variable {g:Wz} {a:SD}
theorem vZ(i:Nat)(h:Ih b.R d)(e:a.body.size<=1000000):OK u (r9 (Pm u) b (o9 i (Pm u) (Iz a g v D f c z) y) a.body d qh):=by
 match i with
 |0=>exact D8 (x:=Iz a g v D f c z) (tb:=z 3) h e
 |_+1=>exact D9 (x:=Iz a g v D f c z) (tb:=z 3) h e
theorem AY{h i:Nat}(k:Nat)(j:mr a d)(r:b.A.size<=1000)(l:b.R=pa a):OK u (si (Pm u) b (o9 k (Pm u) (Iz a g v D f c z) y) c e (ei a.xs.length h i) a.xs.length a.xs m a.en a.sg a.body d (jH 5 (jH 5 (Ea qh)))):=
 Em j.en (by lia) rfl λv1=>Ek j.xs (by have:=vY b a.en (az .encoding) v1;lia) rfl λn o=>AC j.sg (by
  have p:=vY b a.en (az .encoding) v1;have q:=Go (b.opt a.en (az .encoding) v1) n o a.xs;lia) rfl λv2=>vZ k (by rw[vX,Gn,vX,l];exact j.ev) j.body
theorem AZ{h i:Nat}(k:Nat)(j:mr a d)(q:b.A.size<=1000)(l:b.R=pa a):OK u (sj (Pm u) b (o9 k (Pm u) (Iz a g v D f c z) y) c e (ei a.xs.length h i) a.xs.length a.xs a.en a.sg a.body d (jH 13 (jH 12 (Ea qh)))):=
 En j.en (by lia) rfl λv1=>El j.xs (by have:=vY b a.en (az .encoding) v1;lia) rfl λm n=>AC j.sg (by
  have o:=vY b a.en (az .encoding) v1;have p:=Go (b.opt a.en (az .encoding) v1) m n a.xs;lia) rfl λv2=>vZ k (by rw[vX,Gn,vX,l];exact j.ev) j.body
end
section
noncomputable def RX(c:Code):Nat:=(gS c).frame.getD 0
noncomputable def Ts(f:WC)(cA h g:Nat)(d:SD)(e:AL):U:=λc b i=>let a:=b[0]?.getD default
 Tl f cA (hu (aA a 1)) (dN a 0) (dN a 1) (be c) h (Dp c) (hu (l8 b 4 1)) g (eJ b 3) d.tree d.ps e
noncomputable def Eo(b:Fin 3)(c:Fin 4)(e:Fin 6):U:=λa d f=>NR b c e (ad a 2) (tk a 0) (tk a 1) (lk d 0 0)
noncomputable def IA(d:SD):U:=λc b a=>mn (r8 (hu (l8 b 3 1)) d.ps (cH a 1 0) (cH a 1 1) (cH a 1 2)) c b a
noncomputable def IB(d:SD):U:=λc b a=>mn (r8 (hu (l8 b 5 1)) d.ps (cH a 3 0) (cH a 3 1) (cH a 3 2)++ #[l8 b 2 1]) c b a
noncomputable def RY(g:WC)(cA h:Nat)(d:SD)(f:AL)(c:Code)(a:uk)(b:Wy AL):SX:=let e:=a[0]?.getD default
 ⟨RX c,cA,h,hu (aA e 1),dN e 0,dN e 1,Oo g d.ps f (cH b 4 3),Op d.ps,r8 (hu (l8 a 11 1)) d.ps (cH b 4 0) (cH b 4 1) (cH b 4 2)++ #[l8 a 8 1]++ #[l8 a 6 1],eJ a 3,pa d⟩
theorem lL(d:Nat)(a:Wy cl)(b e c:Nat):(r8 d a b e c).size<=4:=by
 unfold r8;rw[Array.size_append]
 match a with
 |[]=>exact Nat.le_of_ble_eq_true rfl
 |[_]=>exact Nat.le_of_ble_eq_true rfl
 |[_,_]=>exact Nat.le_of_ble_eq_true rfl
 |_::_::_::_=>exact Nat.le_of_ble_eq_true rfl
variable {e:SD}
theorem v8:∀a c b,OK u (IA e a c b):=λa c b=>fU (Nat.le_trans (lL _ _ _ _ _) (by decide)) a c b
theorem v9:∀c b a,OK u (IB e c b a):=λc b a=>fU (by
 rw[Array.size_append];have:=lL (hu (l8 b 5 1)) e.ps (cH a 3 0) (cH a 3 1) (cH a 3 2);refine(?_:_+1<=_);lia) c b a
theorem sk{d:WC}{cA:Nat}{c:Code}{b:uk}{a:Wy AL}:(RY d cA f e y c b a).A.size<=1000:=by refine(?_:(r8 _ _ _ _ _++ #[_]++ #[_]).size<=_);rw[Array.size_append,Array.size_append];have:=lL (hu (l8 b 11 1)) e.ps (cH a 4 0) (cH a 4 1) (cH a 4 2);refine(?_:_+1+1<=_);lia
noncomputable def QD:AL->AL:=jH 1 (jH 5 (jH 5 (Ea qh)))
noncomputable def JX:AL->AL:=jH 9 (jH 13 (jH 12 (Ea qh)))
structure SA where
 (c d lp le ep VC a b:Nat)
 (F ks t:AL)
noncomputable def SA.xx(a:SA)(e:SD)(d b:Wz)(c:Bool):CM:=Iz e d b c a.lp a.le a.t
noncomputable def SA.cells(g:WC)(e:SA)(f:SD)(k:Nat)(j h:Wz)(i:Bool):Wy (Nat×gi):=[(e.c,eu 888 e.d),(e.d,o9 k g (e.xx f j h i) e.ks),(e.lp,cp f.ps e.F e.ep),(e.le,cm (ei f.xs.length e.a e.b) e.VC)]
noncomputable def SA.objs(f:WC)(c:SA)(e:SD)(j:Nat)(i g:Wz)(h:Bool):uk:=[eu 888 c.d,o9 j f (c.xx e i g h) c.ks,cp e.ps c.F c.ep,cm (ei e.xs.length c.a c.b) c.VC]
noncomputable def SA.UO(c:SA)(d:SD):jz:=⟨ei d.xs.length c.a c.b,d.xs⟩
noncomputable def Gp(e:WC)(k:Nat)(d:SA)(b:SD)(j g:Wz)(i:Bool)(f:Nat)(h:Wy Ev):Spec:=
 ⟨ul 698 [.ref d.c],195,none,⟨pl (d.cells e b k j g i++[(693,fG f)]),[],λa ω=>d.objs e b k j g i++[fG f],nn,λa ω=>[⟨a 0,cp (h9 h b.body) (QD a) (bX b.body 2 h),false⟩],nn,[d.UO b],nn⟩,λa ω=>uj (.ref (a 0))⟩
noncomputable def va(k:AL->AL)(e:WC)(j:Nat)(d:SA)(b:SD)(i f:Wz)(h:Bool)(g:Wy Ev):Spec:=
 ⟨ul 698 [.ref d.c],195,none,⟨pl (d.cells e b j i f h++[(693,aT)]),[],λa ω=>d.objs e b j i f h++[fG (a 1)],nn,λa ω=>[⟨a 0,cp (h9 g b.body) (k a) (bX b.body 2 g),false⟩,⟨a 1,OF (a 2) (a 3) (a 4) (a 5) (a 6) (a 7) (a 8),false⟩],nn,[d.UO b],nn⟩,λa ω=>uj (.ref (a 0))⟩
noncomputable def t4(a:WC)(h:Nat)(e:SA)(g:SD)(f b:Wz)(d:Bool)(c:Wy Ev):Spec:=va JX a h e g f b d c
noncomputable def QB:Nat:=0x1000111010221f19f121111023318f3110f33040012213431cf4114f4405660161011f13ff13ff13f113fe1af14333300f12ff12ff12f4531bf5113f55062abf52f13ff13ff13f113fe1af16555500f12ff12ff12f6207f017000007708001001723
variable {g:Wy Ev} {c:SA}
theorem Ep(m:mr e g)(o:f<2):aI u (λu=>Gp (Pm u) f c e x v D h g):=by
 have n:aw u (λu=>[mn #[],Ts (Pm u) c.c c.lp c.ep e c.F,Eo e.i1 e.j1 e.z1,IA e,Eo e.i2 e.j2 e.z2,IB e,λi k j=>si (Pm u) (RY (Pm u) c.c c.d e c.F i k j) (o9 f (Pm u) (c.xx e x v D) c.ks) c.le c.VC (ei e.xs.length c.a c.b) e.xs.length e.xs h e.en e.sg e.body g (jH 5 (jH 5 (Ea qh)))]):=⟨fU (Nat.zero_le _),λi k j=>Gj m.ps,λi k j=>p8,v8,λi k j=>p8,v9,λi k j=>AY f m sk rfl,cg⟩
 clear m;rcases aP o with rfl|rfl
 ·exact oT QB [[1],[3,0,6,2],[0],[4],[0],[6],[7,8,9,6,11,12]] [4,3,2,1,0,13] (dT [294] λl=>dI (odd (cn 1 (odd (cn 9 (odd (cn 1 (odd (cn 9 (odd (cn 2 (odd (cn 7 l))))))))))))) n (J:=[[],[.cells [1]],[],[],[],[],[.app (.app (.UO 0) (.cells [2])) (.cells [0]),.UO 1]])
 ·exact oT QB [[1],[3,0,6,2],[0],[4],[0],[6],[7,8,9,6,11,12]] [4,3,2,1,0,13] (dT [294] λl=>dI (odd (cn 1 (odd (cn 9 (odd (cn 1 (odd (cn 9 (odd (cn 2 (odd (cn 7 l))))))))))))) n (J:=[[],[.cells [1]],[],[],[],[],[.app (.app (.UO 0) (.cells [2])) (.cells [0]),.UO 1]])
noncomputable def Q9:uh:=[294,806,934,1062,1190,1318,1446,1574,1702]
theorem Er(l:mr e g)(n:f<2):aI u (λu=>t4 (Pm u) f c e x v D g):=by
 have m:aw u (λu=>[mn #[],Ts (Pm u) c.c c.lp c.ep e c.F,Eo e.i1 e.j1 e.z1,IA e,Eo e.i2 e.j2 e.z2,IB e,λh j i=>sj (Pm u) (RY (Pm u) c.c c.d e c.F h j i) (o9 f (Pm u) (c.xx e x v D) c.ks) c.le c.VC (ei e.xs.length c.a c.b) e.xs.length e.xs e.en e.sg e.body g (jH 13 (jH 12 (Ea qh)))]):=⟨fU (Nat.zero_le _),λh j i=>Gj l.ps,λh j i=>p8,v8,λh j i=>p8,v9,λh j i=>AZ f l sk rfl,cg⟩
 clear l;rcases aP n with rfl|rfl
 ·exact oT QB [[1],[3,0,6,2],[0],[4],[0],[6],[7,8,9,6,11,12]] [4,3,2,1,0,14,13] (dT Q9 λk=>dI (odd (cn 1 (odd (cn 9 (odd (cn 1 (odd (cn 9 (odd (cn 2 (odd (cn 7 k))))))))))))) m (J:=[[],[.cells [1]],[],[],[],[],[.app (.app (.UO 0) (.cells [2])) (.cells [0]),.UO 1]])
 ·exact oT QB [[1],[3,0,6,2],[0],[4],[0],[6],[7,8,9,6,11,12]] [4,3,2,1,0,14,13] (dT Q9 λk=>dI (odd (cn 1 (odd (cn 9 (odd (cn 1 (odd (cn 9 (odd (cn 2 (odd (cn 7 k))))))))))))) m (J:=[[],[.cells [1]],[],[],[],[],[.app (.app (.UO 0) (.cells [2])) (.cells [0]),.UO 1]])
end
section
structure s3(bs:Wy cl)(T:cl):Prop where
 ne:bs≠[]
 j:eI #[] bs=T
 sz:T.size<=1000000
 fd:bs.foldl (· + ·.size) ((#[]:cl).size*(bs.length-1))<=16777216
theorem jo{a:Wy AL->AL}(b:s3 A k):∀c e d,OK u (hf #[] A k a c e d):=λc e d=>bh b.ne b.j (Nat.le_trans b.sz (by decide)) b.fd
noncomputable def OI(j:WC)(c a i f:Nat)(b:gi)(e:Wy cl)(d:AL)(g:cl):Spec:=
 ⟨ul 256 [.ref c],60,none,UM [(c,eu 888 a),(a,b),(i,cp e d f)] (λω=>[eu 888 a,b,cp e d f]) (λω=>[]),λh ω=>uj (.bytes g (h 0))⟩
noncomputable def Tq:Nat:=0x151ff805f2213f220bf11100f12ff12f307f013000003304012
theorem wa{b:CM}{z:AL}{y:AL}(g:s3 A k)(h:d<2):aI u (λu=>OI (Pm u) c a e f (o9 d (Pm u) {b with U8:=false,U4:= .ref e} z) A y k):=by
 rcases aP h with rfl|rfl
 ·exact oU Tq [[4]] [2,1,0] (aE [10]) ⟨jo g,cg⟩ (Y:=λω=>[hf #[] A k λω=>y])
 ·exact oU Tq [[4]] [2,1,0] (aE [10]) ⟨jo g,cg⟩ (Y:=λω=>[hf #[] A k λω=>y])
noncomputable def Es(e:WC)(h:Nat)(d:SA)(b:SD)(k j:Wz)(f:Nat)(g:Wy Ev)(i:cl):Spec:=
 ⟨ul 256 [.ref d.c],230,none,⟨pl (d.cells e b h k j true++[(693,fG f)]),[],λa ω=>d.objs e b h .none (.ref (a 1)) false++[fG f],nn,λa ω=>[⟨a 1,cp (h9 g b.body) (jH 2 QD a) (bX b.body 2 g),false⟩],nn,[d.UO b],nn⟩,λa ω=>uj (.bytes i (a 0))⟩
noncomputable def XG(k:AL->AL)(e:WC)(g:Nat)(d:SA)(b:SD)(j i:Wz)(f:Wy Ev)(h:cl):Spec:=
 ⟨ul 256 [.ref d.c],230,none,⟨pl (d.cells e b g j i true++[(693,aT)]),[],λa ω=>d.objs e b g .none (.ref (a 1)) false++[fG (a 2)],nn,λa ω=>[⟨a 1,cp (h9 f b.body) (jH 10 k a) (bX b.body 2 f),false⟩,⟨a 2,OF (a 3) (a 4) (a 5) (a 6) (a 7) (a 8) (a 9),false⟩],nn,[d.UO b],nn⟩,λa ω=>uj (.bytes h (a 0))⟩
noncomputable def OJ(a:WC)(h:Nat)(e:SA)(g:SD)(f c:Wz)(d:Wy Ev)(b:cl):Spec:=XG JX a h e g f c d b
noncomputable def RU:Nat:=0x151ff805f2213f220bf111507f0423f30418f013013511f4441705f0300003401f18fd18f140313f055f12f52207f014000004405012
variable {a:Wy Ev} {e:Wz} {b:SD} {c:SA}
theorem A0(i:mr b a)(m:d<2)(j:s3 (h9 a b.body) k):aI u (λu=>Es (Pm u) d c b v e f a k):=by
 have l:aw u (λu=>[λn o h=>Gp (Pm u) d c b .none e true f a,hf #[] (h9 a b.body) k λh=>QD (cH h 0)]):=⟨λn o h=>Ep i m,jo j,cg⟩
 clear i j;rcases aP m with rfl|rfl
 ·exact oU RU [[2,3,4,5,6],[0]] [4,3,2,1,0,7] (dT [23,10] λg=>dI (cn 10 g)) l (J:=[[.UO 0],[]])
 ·exact oU RU [[2,3,4,5,6],[0]] [4,3,2,1,0,7] (dT [23,10] λg=>dI (cn 10 g)) l (J:=[[.UO 0],[]])
noncomputable def RV:Nat:=0x151ff805f2213f220bf111507f0423f30418f013013511f4441705f0300003401f18fd18f150313f066f12f63207f015000005506012
noncomputable def UV:uh:=[23,10,12,14,16,18,20,22,24,26]
theorem yy{f:AL->AL}(j:∀i n g,OK u ((λω ω ω=>va f (Pm u) d c b .none e true a:TU) i n g))(o:d<2)(l:s3 (h9 a b.body) k):aI u (λu=>XG f (Pm u) d c b v e a k):=by
 have m:aw u (λu=>[λi n g=>va f (Pm u) d c b .none e true a,hf #[] (h9 a b.body) k λg=>f (cH g 0)]):=⟨j,jo l,cg⟩
 clear j l;rcases aP o with rfl|rfl
 ·exact oU RV [[2,3,4,5,6],[0]] [4,3,2,1,0,8,7] (dT UV λh=>dI (cn 10 h)) m (J:=[[.UO 0],[]])
 ·exact oU RV [[2,3,4,5,6],[0]] [4,3,2,1,0,8,7] (dT UV λh=>dI (cn 10 h)) m (J:=[[.UO 0],[]])
theorem IC(g:mr b a)(f:d<2)(h:s3 (h9 a b.body) k):OK u (OJ (Pm u) d c b v e a k):=yy (λω ω ω=>Er g f) f h
end
section
noncomputable def OL(a:cl)(c:Nat)(b:Str)(d:Nat):Spec:=⟨ul 200 [.bytes a c,.str b d],40,none,UM [] (λω=>[]) (λω=>[]),λω ω=>uj .none⟩
noncomputable def QE:Nat:=0x1353f1041bf315f0f0dfb0ff0602f314f00301100001703ff0aff0aff0af30af11011111211001
variable {b:Str}
theorem A1(d:Fin 3):aI u (λω=>OL (dv d) a b c):=by
 match d with
 |0=>exact oT QE [] [] (aE []) trivial (Y:=λω=>[])
 |1=>exact oT QE [] [] (aE []) trivial (Y:=λω=>[])
 |2=>exact oT QE [] [] (aE []) trivial (Y:=λω=>[])
noncomputable def uM:cl:= #[65,32,60,60,98,62]
noncomputable def OM(b:Nat)(a:Str)(c:Nat):Spec:=F7 (.call (.ref 200) ⟨[.bytes uM b,.str a c],[]⟩) 40 [] (.ref 44) λω=>.none
theorem ID:aI u (λω=>OM a b c):=
 oT 0x1353f1298f55bf00f0dfb0ff0602f314f00301239f703ff0af11101111121107209f30ff30af02101100f0110101022222022021311 [[]] [8,10] (aE [37,38,40,0]) ⟨es,cg⟩ (Y:=λω=>[hE]) (Z:=g4 [22])
noncomputable def RZ(b:Fin 4)(a:Nat):Spec:=⟨ul 207 [.int (dt.getD b.val 0) a],20,none,UM [] (λω=>[]) (λω=>[]),λω ω=>uj .none⟩
noncomputable def Tt:Nat:=0x10001110010011
theorem uN(b:Fin 4):aI u (λω=>RZ b a):=by
 match b with
 |0=>exact oT Tt [] [] (aE []) trivial (Y:=λω=>[])
 |1=>exact oT Tt [] [] (aE []) trivial (Y:=λω=>[])
 |2=>exact oT Tt [] [] (aE []) trivial (Y:=λω=>[])
 |3=>exact oT Tt [] [] (aE []) trivial (Y:=λω=>[])
end
section
noncomputable def R1(a:Nat):Env:=xi [53] (lq "_strip_signature_headers.<locals>.") 656 655 a []
noncomputable def wC(a:Nat):Code:=SG [53,4] (R1 a)
structure WS where
 (L pl:Nat)
 T:cl
 (tT k0 k1 k2 k3 k4:Nat)
noncomputable def ON(b:WC)(a:WS)(d:Bool)(e:Int)(g:Nat)(c:Int)(f:Nat):gi:=ot [dx b "raw" a.k0 (.bytes a.T a.tT),dx b "payload" a.k1 (.ref a.pl),dx b "in_header" a.k2 (.bool d),dx b "start" a.k3 (.int e g),dx b "end" a.k4 (.int c f)] 5
structure WE where
 ih:Bool
 (s e:Int)
 bs:Wy cl
noncomputable def Ca(d:WC)(a:WS)(i:Bool)(j:Int)(l:Nat)(g:Int)(k:Nat)(f:Wy cl)(e:AL)(h:Nat)(c:WE):Spec:=
 ⟨wC a.L,60,some a.L,⟨[⟨a.L,ON d a i j l g k,true⟩,⟨a.pl,cp f e h,false⟩],[],λb ω=>[ON d a c.ih c.s (b 0) c.e (b 1),cp c.bs (cn 3 b) (b 2)],nn,nn,nn,[],nn⟩,λω ω=>.ok .next⟩
noncomputable def pc(a:WS)(c:Int)(b:Nat):Wy U:=[fl a.T (a.T.size:Nat),JQ c (a.T.size:Nat) true,pT a.T #[10] c b,CV ((b:Int)+1) 0 false]
noncomputable def A2(d:WC)(h:WS)(g:Bool)(b:Nat)(e:Wy cl)(f:uk->AL)(i:WE):U:=λj a k=>let c:=a[0]?.getD default
 Ca d h g ((b:Int)+1) (df (aA c 3)) ((b:Int)+1) (df (aA c 4)) e (f a) (eJ a 1) i
noncomputable def Tu:Nat:=0x13100207f2108f01106f121111309f222210f23334444333001201524442
variable {b:WE} {a:WS}
theorem OO(g:dA a.T q k c)(s:aB k (az .sig)=false)(t:aB k #[10]=false)(v:A.length<=1000000)(x:∀l C o z m p,l=((c:Int)+1)->OK u (Ca (Pm u) a false l C o z (A++[k]) m p b)):aI u (λu=>Ca (Pm u) a false q f r e A y d b):=by
 have w:aw u (λu=>pc a q c++[du a.T k (some q) (some ((c:Int)+1)),vx k (az .sig) false,du a.T k (some q) (some ((c:Int)+1)),vx k #[10] false,du a.T k (some q) (some ((c:Int)+1)),rC A y k,A2 (Pm u) a false c (A++[k]) (λh=>mm y A.length (df (l8 h 2 1))) b]):=⟨λi h j=>aD rfl (by have:=g.big;lia),λi h j=>i9 (decide_eq_true g.lt),λi h j=>fO g.p0 g.find,λi h j=>iD (by simp;lia),de (dB g) (by have:=g.big;lia),λi h j=>hA s,de (dB g) (by have:=g.big;lia),λi h j=>hA t,de (dB g) (by have:=g.big;lia),iz v,λi h j=>x _ _ _ _ _ _ rfl,cg⟩
 exact oT Tu [[],[],[],[],[0],[],[0],[],[0],[4],[3,4]] [1,0] (dT [] λn=>dI (cn 1 (odd (odd (cn 2 (odd (cn 1 (odd (cn 1 (odd (cn 1 (odd (cn 1 (odd (cn 4 (odd (cn 1 (odd (odd n))))))))))))))))))) w
theorem OP(g:dA a.T q k c)(s:aB k (az .sig)=true)(v:∀l x o w m p,l=((c:Int)+1)->OK u (Ca (Pm u) a true l x o w A m p b)):aI u (λu=>Ca (Pm u) a false q f r e A y d b):=by
 have t:aw u (λu=>pc a q c++[du a.T k (some q) (some ((c:Int)+1)),vx k (az .sig) true,A2 (Pm u) a true c A (λω=>y) b]):=⟨λh j i=>aD rfl (by have:=g.big;lia),λh j i=>i9 (decide_eq_true g.lt),λh j i=>fO g.p0 g.find,λh j i=>iD (by simp;lia),de (dB g) (by have:=g.big;lia),λh j i=>hA s,λh j i=>v _ _ _ _ _ _ rfl,cg⟩
 exact oT 0x13100207f2108f01106f121111001201200f2 [[],[],[],[],[0],[],[1,2]] [1,0] (dT [] λn=>dI (cn 2 (odd (cn 1 (odd (cn 1 (odd (cn 4 (odd (cn 1 (odd (odd n)))))))))))) t
theorem OQ(g:dA a.T q k c)(s:aB k #[32]=true)(v:∀l x o w m p,l=((c:Int)+1)->OK u (Ca (Pm u) a true l x o w A m p b)):aI u (λu=>Ca (Pm u) a true q f r e A y d b):=by
 have t:aw u (λu=>pc a q c++[du a.T k (some q) (some ((c:Int)+1)),vx k #[32] true,A2 (Pm u) a true c A (λω=>y) b]):=⟨λh j i=>aD rfl (by have:=g.big;lia),λh j i=>i9 (decide_eq_true g.lt),λh j i=>fO g.p0 g.find,λh j i=>iD (by simp;lia),de (dB g) (by have:=g.big;lia),λh j i=>hA s,λh j i=>v _ _ _ _ _ _ rfl,cg⟩
 exact oT 0x13100207f2108f01106f12111100120122222 [[],[],[],[],[0],[],[1,2]] [1,0] (dT [] λn=>dI (cn 1 (odd (cn 1 (odd (cn 1 (odd (cn 4 (odd (cn 1 (odd (odd n)))))))))))) t
end
section
noncomputable def R2(d:WC)(a:WS)(g:Bool)(h:Int)(i:Nat)(j:Int)(m:Nat)(b:Wy cl)(c:AL)(f k:Nat)(l:cl):Spec:=
 ⟨wC a.L,60,some a.L,⟨[⟨a.L,ON d a g h i j m,true⟩,⟨a.pl,cp b c f,false⟩],[],λe ω=>[ON d a g h i ((k:Int)+1) (e 0),cp (b++[l]) (mm c b.length (e 1)) (f+1)],nn,nn,nn,[],nn⟩,λω ω=>.ok .next⟩
variable {a:WS}
theorem IE(b:dA a.T q k c)(j:aB k (az .sig)=false)(m:aB k #[10]=true)(o:a.T.extract (dE (some q) a.T.size 0).toNat (dE none a.T.size a.T.size).toNat=l)(n:A.length<=1000000):aI u (λu=>R2 (Pm u) a false q e r f A y d c l):=by
 have p:aw u (λω=>pc a q c++[du a.T k (some q) (some ((c:Int)+1)),vx k (az .sig) false,du a.T k (some q) (some ((c:Int)+1)),vx k #[10] true,du a.T l (some q) none,rC A y l]):=⟨λg i h=>aD rfl (by have:=b.big;lia),λg i h=>i9 (decide_eq_true b.lt),λg i h=>fO b.p0 b.find,λg i h=>iD (by simp;lia),de (dB b) (by have:=b.big;lia),λg i h=>hA j,de (dB b) (by have:=b.big;lia),λg i h=>hA m,de o (by have:=b.big;lia),iz n,cg⟩
 exact oT 0x13100207f2108f01106f121111309f22220df2344443300120152 [[],[],[],[],[0],[],[0],[],[0],[4]] [1,0] (aE [19,787]) p
theorem IF(b:dA a.T q k c)(j:aB k #[32]=false)(m:aB k (az .sig)=false)(n:aB k #[10]=true)(p:a.T.extract (dE (some q) a.T.size 0).toNat (dE none a.T.size a.T.size).toNat=l)(o:A.length<=1000000):aI u (λu=>R2 (Pm u) a true q e r f A y d c l):=by
 have s:aw u (λω=>pc a q c++[du a.T k (some q) (some ((c:Int)+1)),vx k #[32] false,du a.T k (some q) (some ((c:Int)+1)),vx k (az .sig) false,du a.T k (some q) (some ((c:Int)+1)),vx k #[10] true,du a.T l (some q) none,rC A y l]):=⟨λg i h=>aD rfl (by have:=b.big;lia),λg i h=>i9 (decide_eq_true b.lt),λg i h=>fO b.p0 b.find,λg i h=>iD (by simp;lia),de (dB b) (by have:=b.big;lia),λg i h=>hA j,de (dB b) (by have:=b.big;lia),λg i h=>hA m,de (dB b) (by have:=b.big;lia),λg i h=>hA n,de p (by have:=b.big;lia),iz o,cg⟩
 exact oT 0x13100207f2108f01106f121111309f222309f33320df2455554400120162 [[],[],[],[],[0],[],[0],[],[0],[],[0],[5]] [1,0] (aE [19,3091]) s
theorem CI(g:OK u (R2 (Pm u) a D q e r f A y d c l)):OK u (Ca (Pm u) a D q e r f A y d ⟨D,q,(c:Int)+1,A++[l]⟩):=
 g.alt rfl rfl rfl rfl rfl rfl λb h=>⟨cons e (cons (b 0) (cons (d+1) (mm y A.length (b 1)))),h,rfl,rfl,rfl,rfl,rfl,rfl⟩
inductive pd (T:cl):Bool->Int->Wy cl->WE->Prop where
 |keep {s:Int} {line:cl} {n:Nat} {bs:Wy cl} {z:WE} (hl:dA T s line n) (h1:aB line (az .sig)=false) (h2:aB line #[10]=false) (hb:bs.length<=1000000) (t:pd T false ((n:Int)+1) (bs++[line]) z):pd T false s bs z
 |sig {s:Int} {line:cl} {n:Nat} {bs:Wy cl} {z:WE} (hl:dA T s line n) (h1:aB line (az .sig)=true) (t:pd T true ((n:Int)+1) bs z):pd T false s bs z
 |cont {s:Int} {line:cl} {n:Nat} {bs:Wy cl} {z:WE} (hl:dA T s line n) (h1:aB line #[32]=true) (t:pd T true ((n:Int)+1) bs z):pd T true s bs z
 |Wk {s:Int} {line rest:cl} {n:Nat} {bs:Wy cl} (hl:dA T s line n) (h1:aB line (az .sig)=false) (h2:aB line #[10]=true) (hr:T.extract (dE (some s) T.size 0).toNat (dE none T.size T.size).toNat=rest) (hb:bs.length<=1000000):pd T false s bs ⟨false,s,(n:Int)+1,bs++[rest]⟩
 |Wd {s:Int} {line rest:cl} {n:Nat} {bs:Wy cl} (hl:dA T s line n) (h0:aB line #[32]=false) (h1:aB line (az .sig)=false) (h2:aB line #[10]=true) (hr:T.extract (dE (some s) T.size 0).toNat (dE none T.size T.size).toNat=rest) (hb:bs.length<=1000000):pd T true s bs ⟨true,s,(n:Int)+1,bs++[rest]⟩
theorem OR{x:WS}{a:WE}(v:pd k D q A a)(y:x.T=k):∀(g:Nat) (d:Int) (f:Nat) (F:AL) (e:Nat),OK u (Ca (Pm u) x D q g d f A F e a):=by
 subst y;induction v with
 |keep c b h i r D=>exact λg d f F e=>OO c b h i λp t n s m o j=>by subst j;exact D _ _ _ _ _
 |sig c b r D=>exact λg d f F e=>OP c b λp t n s m o j=>by subst j;exact D _ _ _ _ _
 |cont c b r D=>exact λg d f F e=>OQ c b λp t n s m o j=>by subst j;exact D _ _ _ _ _
 |Wk c b h l i=>exact λg d f F e=>CI (IE c b h l i)
 |Wd c w b h l i=>exact λg d f F e=>CI (IF c w b h l i)
end
section
noncomputable def R3(b:WC)(a:WS)(c:Nat):gi:=ot [dx b "raw" a.k0 (.bytes a.T a.tT),dx b "payload" a.k1 (.ref a.pl),dx b "in_header" a.k2 (.bool false),dx b "start" a.k3 (.int 0 c)] 4
noncomputable def Tx(d:WC)(a:WS)(g f:Nat)(c:WE):Spec:=
 ⟨wC a.L,70,some a.L,⟨[⟨a.L,R3 d a g,true⟩,⟨a.pl,cm #[] f,false⟩],[],λb ω=>[ON d {a with k4:=b 3} c.ih c.s (b 0) c.e (b 1),cp c.bs (cn 3 (cn 4 b)) (b 2)],nn,nn,nn,[],nn⟩,λω ω=>.ok .next⟩
noncomputable def IG(d:WC)(f:WS)(c:Nat)(e:cl)(g:WE):U:=λh b i=>let a:=b[0]?.getD default
 Ca d {f with k4:=dN a 4} false ((c:Int)+1) (df (aA a 3)) ((c:Int)+1) (df (aA a 4)) [e] (mm (λω=>0) 0 (df (l8 b 2 1))) (eJ b 1) g
variable {b:WE}
theorem OS{a:WS}(p:a.T=l)(f:dA l 0 k c)(m:aB k (az .sig)=false)(n:aB k #[10]=false)(q:pd l false ((c:Int)+1) [k] b):aI u (λu=>Tx (Pm u) a e d b):=by
 subst p;have o:aw u (λu=>pc a 0 c++[du a.T k (some 0) (some ((c:Int)+1)),vx k (az .sig) false,du a.T k (some 0) (some ((c:Int)+1)),vx k #[10] false,du a.T k (some 0) (some ((c:Int)+1)),rC [] (λω=>0) k,IG (Pm u) a c k b]):=⟨λh g i=>aD rfl (by have:=f.big;lia),λh g i=>i9 (decide_eq_true f.lt),λh g i=>fO f.p0 f.find,λh g i=>iD (by simp;lia),de (dB f) (by have:=f.big;lia),λh g i=>hA m,de (dB f) (by have:=f.big;lia),λh g i=>hA n,de (dB f) (by have:=f.big;lia),iz (by simp),λh g i=>OR (x:={a with k4:=dN (g[0]?.getD default) 4}) q rfl _ _ _ _ _,cg⟩
 exact oT Tu [[],[],[],[],[0],[],[0],[],[0],[4],[3,4]] [1,0] (dT [2835,4883,6931,27] λj=>dI (cn 1 (odd (odd (cn 2 (odd (cn 1 (odd (cn 1 (odd (cn 1 (odd (cn 1 (odd (cn 4 (odd (cn 1 (odd (odd j))))))))))))))))))) o
noncomputable def Uh:Code->Nat
 | .whileLoop _ _ _ a=>a.frame.getD 0
 |_=>0
noncomputable def Ui(c:WC)(d:cl)(f:WE):U:=λe b g=>let a:=b[0]?.getD default
 Tx c ⟨Uh e,hu (aA a 1),d,df (aA a 0),dN a 0,dN a 1,dN a 2,dN a 3,0⟩ (df (aA a 3)) (eJ b 1) f
noncomputable def Tz(b:cl)(d:Nat)(a:cl):Spec:=⟨ul 656 [.bytes b d],90,none,UM [] (λω=>[]) (λω=>[]),λc ω=>uj (.bytes a (c 0))⟩
structure k7(T R:cl)(z:WE):Prop where
 at0:∃line n,dA T 0 line n/\aB line (az .sig)=false/\aB line #[10]=false/\pd T false ((n:Int)+1) [line] z
 j:s3 z.bs R
theorem OT(d:k7 l k b):aI u (λω=>Tz l a k):=by obtain⟨m,n,h,e,f,g⟩:=d.at0;exact oU 0x1000111000100f212012 [[1,0],[0]] [] (aE [11]) ⟨λi o c=>OS rfl h e f g,jo d.j,cg⟩ (Y:=λu=>[Ui (Pm u) l b,hf #[] b.bs k λc=>cn 3 (cn 4 (cH c 0))])
end
section
noncomputable def TA(j:WC)(c a i f:Nat)(b:gi)(e:Wy cl)(d:AL)(g:cl):Spec:=
 ⟨ul 691 [.ref c],120,none,UM [(c,eu 888 a),(a,b),(i,cp e d f)] (λω=>[eu 888 a,b,cp e d f]) (λω=>[]),λh ω=>uj (.bytes g (h 0))⟩
variable {f:CM}
theorem OU{z:AL}{y:AL}{b:WE}(i:s3 A k)(j:k7 k l b):aI u (λu=>TA (Pm u) c d a e (o9 0 (Pm u) {f with U8:=false,U4:= .ref a} z) A y l):=
 oU 0x10001110001805f2100f0230101 [[1,2,3],[]] [2,1,0] (aE [4]) ⟨λc h g=>wa i (by decide),λc h g=>OT j,cg⟩ (Y:=λu=>[λm h g=>OI (Pm u) c d a e (o9 0 (Pm u) {f with U8:=false,U4:= .ref a} z) A y k,λc h g=>Tz k (tk c 0) l])
noncomputable def R4(m:WC)(c d n i:Nat)(e:gi)(h:Wy cl)(f:AL)(l:Rd)(o:WA cl)(b k:Nat)(g:Wz)(j:ui):Spec:=
 ⟨ul 301 [.ref c],265,none,⟨pl [(c,eu 888 d),(d,e),(n,cp h f i),(393,ee b),(b,dq g cZ k j)],[],λω ω=>[eu 888 d,e,cp h f i,ee b,dq g cZ k j],nn,λa ω=>pl (zM m l o (a 39) a),nn,[],λa ω=>[rX l a]⟩,λa ω=>uj (.ref (a 0))⟩
theorem OV{z:AL}{y:AL}{b:Rd}{g h:Nat}{v:Wz}{L:ui}(p:s3 A b.T)(l:d6 u b V)(m:b.ps.length<=3)(n:jk b.fA)(o:∃q r,b.fC.time=some q/\b.fC.zone=some r):aI u (λu=>R4 (Pm u) c d a e (o9 0 (Pm u) {f with U8:=false,U4:= .ref a} z) A y b V g h v L):=
 oT 0x140bf0171ff331ff3000330401102339f1307f000140004405011000177341f01339f8097424f1011511f2227805f1215f127805f8100f0890101a [[],[7,8,9],[0,1,10,11]] [4,3,2,1,0,11,10,14,13,12] (dT [13,15,40,48,56,64,72,80,88,96,104,112,120,128,136,144,152,160,168,176,184,21,23,25,27,29,31,33,35,37,39,192,200,208,216,224,232,240,248,22] λk=>dI (odd (cn 4 (odd (cn 13 k))))) ⟨jF,λc j i=>wa p (by decide),λc j i=>zO l m n o,cg⟩ (Y:=λu=>[tY (Pm u),λs j i=>OI (Pm u) c d a e (o9 0 (Pm u) {f with U8:=false,U4:= .ref a} z) A y b.T,Tb (Pm u) b V g h v L]) (R:=[.UO 0])
end
noncomputable def Gs(a:Nat):Env:=xi [54,5] (lq "Commit.check.<locals>.") 684 683 a []
noncomputable def Uj(c:WC)(f:Wy cl)(b:AL)(d:Nat):Wy WL:=match f with
 |[]=>[]
 |e::a=>[dx c "parent" d (.bytes (nw e a) (b a.length))]
noncomputable def Uk(a:Wy cl):Nat:=match a with
 |[]=>1
 |_=>2
noncomputable def OW(e:WC)(c h f i d g:Nat)(a:Wy cl)(b:AL):Spec:=
 ⟨zk [54,5,7] f (Gs d),150,some d,⟨⟨d,ot [dx e "self" h (.ref c)] 1,true⟩::pl [(f,dp i f 0),(i,cp a b g)],[],λj ω=>[ot (dx e "self" h (.ref c)::Uj e a b (j 0)) (Uk a),k6 a.length,cp a b g],nn,nn,nn,[],nn⟩,λω ω=>.ok .next⟩
noncomputable def xN(b:cl):U:=λa d c=>rI b (tk a 0) (lq "invalid parent sha") (tk a 1)
theorem gF{a:Str}(b:ff k):OK u (rI k c a d):=by obtain⟨⟨g,h,e⟩,f⟩:=b;exact nj e f
theorem II(k:A.length<=3)(b:∀m∈A,ff m):aI u (λu=>OW (Pm u) c f e g a d A y):=by
 match A,k with
 |[],_=>exact oU Qw [] [2,1,0] (aE []) trivial (Y:=λω=>[])
 |[j],_=>exact oU 0x1710f110101320121223220013 [[]] [2,1,0] (aE [0]) ⟨λc i h=>gF (b _ (.head _)),cg⟩ (Y:=λω=>[xN j])
 |[j,l],_=>exact oU 0x1f10f510f110101320121223220013 [[],[]] [2,1,0] (aE [0]) ⟨λc i h=>gF (b _ (.head _)),λc i h=>gF (b _ (.tail _ (.head _))),cg⟩ (Y:=λω=>[xN j,xN l])
 |[j,l,n],_=>exact oU 0x1f10ff10f310f110101320121223220013 [[],[],[]] [2,1,0] (aE [0]) ⟨λc i h=>gF (b _ (.head _)),λc i h=>gF (b _ (.tail _ (.head _))),λc i h=>gF (b _ (.tail _ (.tail _ (.head _)))),cg⟩ (Y:=λω=>[xN j,xN l,xN n])
 |_::_::_::_::_,k=>exact absurd k (by simp)
section
noncomputable def IJ(b a:Nat):Code:=zk [54,5,19] b (Gs a)
structure CK where
 (L c k0 kp:Nat)
 pb:cl
 (pt kl kf ku:Nat)
 (last field us:Wz)
 y:PG
noncomputable def R5(c:Nat)(b:WC)(a:CK):Wy WL:=match c with
 |0=>[]
 |_=>[dx b "parent" a.kp (.bytes a.pb a.pt)]
noncomputable def A3(d:Nat)(b:WC)(a:CK):gi:=ot (dx b "self" a.k0 (.ref a.c)::(R5 d b a++[dx b "last" a.kl a.last,dx b "field" a.kf a.field,dx b "_" a.ku a.us])) (match d with|0=>4|_=>5)
noncomputable def dO(c:CK)(b:dm)(a:AL):CK:={c with last:= .bytes (az b.kind) (a 0),field:= .bytes (az b.kind) (a 0),us:= .bytes b.r (a 3),y:=tR c.y (az b.kind) b.rb b.np b.lp (a 0) (a 1) (a 2) (a 4) (a 5)}
noncomputable def jq(b:CK):Wy dm->AL->CK
 |[],_=>b
 |d::c,a=>jq (dO b d a) c (cn 7 a)
noncomputable def Gu(c:Nat)(b:WC)(a:CK):Wy aF:=⟨a.L,A3 c b a,true⟩::vD b a.y
noncomputable def A4(f:Nat)(c:WC)(b:CK)(e:cl)(d:AL):uk:=[A3 f c {b with last:= .none,field:= .none,us:= .bytes e (d 0)},ey b.y.g b.y.nm b.y.qn,kU c b.y.x b.y.ks,e8 b.y.cc b.y.doc b.y.pm,dq b.y.a cZ b.y.tq b.y.l]
noncomputable def fv(d:Nat)(u:WB)(a:CK)(c:Wy dm)(e:cl):Spec:=
 ⟨IJ a.y.ga a.L,160,some a.L,⟨Gu d (Pm u) a,[(a.y.g,fe u a.y.x.L)],λb ω=>A4 d (Pm u) (jq a c b) e (bc c b),λω ω=>[.finished],nn,nn,[],nn⟩,λω ω=>.ok .next⟩
noncomputable def lM(b:Nat)(a:uk):AL:=λc=>match c with
 |0=>df (aA (a[0]?.getD default) (b+1))
 |1=>df (aA (a[2]?.getD default) 9)
 |2=>hu (aA (a[2]?.getD default) 4)
 |3=>df (aA (a[0]?.getD default) (b+3))
 |4=>df (aA (a[2]?.getD default) 2)
 |_=>df (aA (a[2]?.getD default) 8)
noncomputable def oA(d e c:Kd)(f:Bool):U:=λa b g=>fh "tuple.__contains__" [.ref (ad a 0),.bytes (az c) (tk a 1)] [(ad a 0,eE ([.bytes (az d) (lk b 0 0),.bytes (az e) (lk b 0 1)]:ui).toArray)] λω=>.bool f
theorem iK{b c a:Kd}(j:(decide ((az b).toList=(az a).toList)||decide ((az c).toList=(az a).toList))=D):∀d h f,OK u (oA b c a D d h f):=λd h f=>by
 refine rt (e:=λk=>match k with| .bytes i _=>decide (i.toList=(az a).toList)|_=>false) (λl g=> ?_) (by simp only[List.any_cons,List.any_nil,Bool.or_false];exact j)
 simp only[List.mem_cons,List.not_mem_nil,or_false]at g;rcases g with rfl|rfl
 ·exact Eqv.bytes rfl
 ·exact Eqv.bytes rfl
noncomputable def Tv:Nat:=0x13201223310f0f09f1124f1112110015555904f115000110112204f00116662
variable {d0:dm} {us:cl} {a:CK}
theorem Et(n:c<2)(m:∀h g i,OK u (g5 u a.y (az .UK) d0.rb d0.UP d0.np d0.lp d0.r h g i))(o:∀b,OK u (fv c u (dO {a with last:= .bytes (az .tree) f,field:= .bytes k d,us:= .bytes us e} (cu d0 .UK) b) Q l)):aI u (λu=>fv c u {a with last:= .bytes (az .tree) f,field:= .bytes k d,us:= .bytes us e} (cu d0 .UK::Q) l):=by
 have j:aw u (λu=>[g5 u a.y (az .UK) (cu d0 .UK).rb (cu d0 .UK).UP (cu d0 .UK).np (cu d0 .UK).lp (cu d0 .UK).r,oA .tree .parent .tree true,λh g i=>fv c u (dO ({a with last:= .bytes (az .tree) f,field:= .bytes k d,us:= .bytes us e}:CK) (cu d0 .UK) (lM c g)) Q l]):=⟨m,iK rfl,λh g i=>o _,cg⟩
 rcases aP n with rfl|rfl
 ·exact oT Tv [[1,2,3,4],[0],[5,6,7,8,9]] [4,3,2,1,0] (dT [0,2,4,8,10,12,0] λb=>dI (cn 1 (odd (cn 6 (odd b))))) j (G:=[[0],[],[0]]) (I:=[0])
 ·exact oT Tv [[1,2,3,4],[0],[5,6,7,8,9]] [4,3,2,1,0] (dT [0,2,4,8,10,12,0] λb=>dI (cn 1 (odd (cn 6 (odd b))))) j (G:=[[0],[],[0]]) (I:=[0])
theorem Eu(n:c<2)(m:∀h g i,OK u (g5 u a.y (az .UK) d0.rb d0.UP d0.np d0.lp d0.r h g i))(o:∀b,OK u (fv c u (dO {a with last:= .bytes (az .parent) f,field:= .bytes k d,us:= .bytes us e} (cu d0 .UK) b) Q l)):aI u (λu=>fv c u {a with last:= .bytes (az .parent) f,field:= .bytes k d,us:= .bytes us e} (cu d0 .UK::Q) l):=by
 have j:aw u (λu=>[g5 u a.y (az .UK) (cu d0 .UK).rb (cu d0 .UK).UP (cu d0 .UK).np (cu d0 .UK).lp (cu d0 .UK).r,oA .tree .parent .parent true,λh g i=>fv c u (dO ({a with last:= .bytes (az .parent) f,field:= .bytes k d,us:= .bytes us e}:CK) (cu d0 .UK) (lM c g)) Q l]):=⟨m,iK rfl,λh g i=>o _,cg⟩
 rcases aP n with rfl|rfl
 ·exact oT Tv [[1,2,3,4],[0],[5,6,7,8,9]] [4,3,2,1,0] (dT [0,2,4,8,10,12,0] λb=>dI (cn 1 (odd (cn 6 (odd b))))) j (G:=[[0],[],[0]]) (I:=[0])
 ·exact oT Tv [[1,2,3,4],[0],[5,6,7,8,9]] [4,3,2,1,0] (dT [0,2,4,8,10,12,0] λb=>dI (cn 1 (odd (cn 6 (odd b))))) j (G:=[[0],[],[0]]) (I:=[0])
noncomputable def QF:Nat:=0x13201223310f0f09f111ff1112110015555404f115000110112704f00116662
theorem Ew(n:c<2)(m:∀h g i,OK u (g5 u a.y (az .parent) d0.rb d0.UP d0.np d0.lp d0.r h g i))(o:∀b,OK u (fv c u (dO {a with last:= .bytes (az .tree) f,field:= .bytes k d,us:= .bytes us e} (cu d0 .parent) b) Q l)):aI u (λu=>fv c u {a with last:= .bytes (az .tree) f,field:= .bytes k d,us:= .bytes us e} (cu d0 .parent::Q) l):=by
 have j:aw u (λu=>[g5 u a.y (az .parent) (cu d0 .parent).rb (cu d0 .parent).UP (cu d0 .parent).np (cu d0 .parent).lp (cu d0 .parent).r,oA .parent .tree .tree true,λh g i=>fv c u (dO ({a with last:= .bytes (az .tree) f,field:= .bytes k d,us:= .bytes us e}:CK) (cu d0 .parent) (lM c g)) Q l]):=⟨m,iK rfl,λh g i=>o _,cg⟩
 rcases aP n with rfl|rfl
 ·exact oT QF [[1,2,3,4],[0],[5,6,7,8,9]] [4,3,2,1,0] (dT [0,2,4,8,10,12,0] λb=>dI (cn 1 (odd (cn 6 (odd b))))) j (G:=[[0],[],[0]]) (I:=[0])
 ·exact oT QF [[1,2,3,4],[0],[5,6,7,8,9]] [4,3,2,1,0] (dT [0,2,4,8,10,12,0] λb=>dI (cn 1 (odd (cn 6 (odd b))))) j (G:=[[0],[],[0]]) (I:=[0])
theorem Ex(n:c<2)(m:∀h g i,OK u (g5 u a.y (az .parent) d0.rb d0.UP d0.np d0.lp d0.r h g i))(o:∀b,OK u (fv c u (dO {a with last:= .bytes (az .parent) f,field:= .bytes k d,us:= .bytes us e} (cu d0 .parent) b) Q l)):aI u (λu=>fv c u {a with last:= .bytes (az .parent) f,field:= .bytes k d,us:= .bytes us e} (cu d0 .parent::Q) l):=by
 have j:aw u (λu=>[g5 u a.y (az .parent) (cu d0 .parent).rb (cu d0 .parent).UP (cu d0 .parent).np (cu d0 .parent).lp (cu d0 .parent).r,oA .parent .tree .parent true,λh g i=>fv c u (dO ({a with last:= .bytes (az .parent) f,field:= .bytes k d,us:= .bytes us e}:CK) (cu d0 .parent) (lM c g)) Q l]):=⟨m,iK rfl,λh g i=>o _,cg⟩
 rcases aP n with rfl|rfl
 ·exact oT QF [[1,2,3,4],[0],[5,6,7,8,9]] [4,3,2,1,0] (dT [0,2,4,8,10,12,0] λb=>dI (cn 1 (odd (cn 6 (odd b))))) j (G:=[[0],[],[0]]) (I:=[0])
 ·exact oT QF [[1,2,3,4],[0],[5,6,7,8,9]] [4,3,2,1,0] (dT [0,2,4,8,10,12,0] λb=>dI (cn 1 (odd (cn 6 (odd b))))) j (G:=[[0],[],[0]]) (I:=[0])
noncomputable def QG:Nat:=0x13201223310f0f09f1110111112110015555f04f304f00115552
theorem Ey(n:c<2)(m:∀h g i,OK u (g5 u a.y (az .UL) d0.rb d0.UP d0.np d0.lp d0.r h g i))(o:∀b,OK u (fv c u (dO {a with last:= .bytes (az .UK) f,field:= .bytes k d,us:= .bytes us e} (cu d0 .UL) b) Q l)):aI u (λu=>fv c u {a with last:= .bytes (az .UK) f,field:= .bytes k d,us:= .bytes us e} (cu d0 .UL::Q) l):=by
 have j:aw u (λu=>[g5 u a.y (az .UL) (cu d0 .UL).rb (cu d0 .UL).UP (cu d0 .UL).np (cu d0 .UL).lp (cu d0 .UL).r,λh g i=>fv c u (dO ({a with last:= .bytes (az .UK) f,field:= .bytes k d,us:= .bytes us e}:CK) (cu d0 .UL) (lM c g)) Q l]):=⟨m,λh g i=>o _,cg⟩
 rcases aP n with rfl|rfl
 ·exact oT QG [[1,2,3,4],[4,5,6,7,8]] [4,3,2,1,0] (dT [0,2,4,8,10,12,0] λb=>dI (cn 6 (odd b))) j (G:=[[0],[0]]) (I:=[0])
 ·exact oT QG [[1,2,3,4],[4,5,6,7,8]] [4,3,2,1,0] (dT [0,2,4,8,10,12,0] λb=>dI (cn 6 (odd b))) j (G:=[[0],[0]]) (I:=[0])
theorem Ez(n:c<2)(m:∀h g i,OK u (g5 u a.y (az .encoding) d0.rb d0.UP d0.np d0.lp d0.r h g i))(o:∀b,OK u (fv c u (dO {a with last:= .bytes (az .UL) f,field:= .bytes k d,us:= .bytes us e} (cu d0 .encoding) b) Q l)):aI u (λu=>fv c u {a with last:= .bytes (az .UL) f,field:= .bytes k d,us:= .bytes us e} (cu d0 .encoding::Q) l):=by
 have j:aw u (λu=>[g5 u a.y (az .encoding) (cu d0 .encoding).rb (cu d0 .encoding).UP (cu d0 .encoding).np (cu d0 .encoding).lp (cu d0 .encoding).r,λh g i=>fv c u (dO ({a with last:= .bytes (az .UL) f,field:= .bytes k d,us:= .bytes us e}:CK) (cu d0 .encoding) (lM c g)) Q l]):=⟨m,λh g i=>o _,cg⟩
 rcases aP n with rfl|rfl
 ·exact oT QG [[1,2,3,4],[4,5,6,7,8]] [4,3,2,1,0] (dT [0,2,4,8,10,12,0] λb=>dI (cn 6 (odd b))) j (G:=[[0],[0]]) (I:=[0])
 ·exact oT QG [[1,2,3,4],[4,5,6,7,8]] [4,3,2,1,0] (dT [0,2,4,8,10,12,0] λb=>dI (cn 6 (odd b))) j (G:=[[0],[0]]) (I:=[0])
noncomputable def Tw:Nat:=0x13201223310f0f09f1110111112110015555f04f1500115552
theorem EA(m:c<2)(j:∀g f h,OK u (g5 u a.y (az .sig) d0.rb d0.UP d0.np d0.lp d0.r g f h))(n:∀b,OK u (fv c u (dO {a with last:=v,field:= .bytes k d,us:= .bytes us e} (cu d0 .sig) b) Q l)):aI u (λu=>fv c u {a with last:=v,field:= .bytes k d,us:= .bytes us e} (cu d0 .sig::Q) l):=by
 have i:aw u (λu=>[g5 u a.y (az .sig) (cu d0 .sig).rb (cu d0 .sig).UP (cu d0 .sig).np (cu d0 .sig).lp (cu d0 .sig).r,λg f h=>fv c u (dO ({a with last:=v,field:= .bytes k d,us:= .bytes us e}:CK) (cu d0 .sig) (lM c f)) Q l]):=⟨j,λg f h=>n _,cg⟩
 rcases aP m with rfl|rfl
 ·exact oT Tw [[1,2,3,4],[4,5,6,7,8]] [4,3,2,1,0] (dT [0,2,4,8,10,12,0] λb=>dI (cn 6 (odd b))) i (G:=[[0],[0]]) (I:=[0])
 ·exact oT Tw [[1,2,3,4],[4,5,6,7,8]] [4,3,2,1,0] (dT [0,2,4,8,10,12,0] λb=>dI (cn 6 (odd b))) i (G:=[[0],[0]]) (I:=[0])
theorem EB(m:c<2)(j:∀g f h,OK u (g5 u a.y (az .tag) d0.rb d0.UP d0.np d0.lp d0.r g f h))(n:∀b,OK u (fv c u (dO {a with last:=v,field:= .bytes k d,us:= .bytes us e} (cu d0 .tag) b) Q l)):aI u (λu=>fv c u {a with last:=v,field:= .bytes k d,us:= .bytes us e} (cu d0 .tag::Q) l):=by
 have i:aw u (λu=>[g5 u a.y (az .tag) (cu d0 .tag).rb (cu d0 .tag).UP (cu d0 .tag).np (cu d0 .tag).lp (cu d0 .tag).r,λg f h=>fv c u (dO ({a with last:=v,field:= .bytes k d,us:= .bytes us e}:CK) (cu d0 .tag) (lM c f)) Q l]):=⟨j,λg f h=>n _,cg⟩
 rcases aP m with rfl|rfl
 ·exact oT Tw [[1,2,3,4],[4,5,6,7,8]] [4,3,2,1,0] (dT [0,2,4,8,10,12,0] λb=>dI (cn 6 (odd b))) i (G:=[[0],[0]]) (I:=[0])
 ·exact oT Tw [[1,2,3,4],[4,5,6,7,8]] [4,3,2,1,0] (dT [0,2,4,8,10,12,0] λb=>dI (cn 6 (odd b))) i (G:=[[0],[0]]) (I:=[0])
theorem EC(m:c<2)(j:∀g f h,OK u (g5 u a.y (az .rename) d0.rb d0.UP d0.np d0.lp d0.r g f h))(n:∀b,OK u (fv c u (dO {a with last:=v,field:= .bytes k d,us:= .bytes us e} (cu d0 .rename) b) Q l)):aI u (λu=>fv c u {a with last:=v,field:= .bytes k d,us:= .bytes us e} (cu d0 .rename::Q) l):=by
 have i:aw u (λu=>[g5 u a.y (az .rename) (cu d0 .rename).rb (cu d0 .rename).UP (cu d0 .rename).np (cu d0 .rename).lp (cu d0 .rename).r,λg f h=>fv c u (dO ({a with last:=v,field:= .bytes k d,us:= .bytes us e}:CK) (cu d0 .rename) (lM c f)) Q l]):=⟨j,λg f h=>n _,cg⟩
 rcases aP m with rfl|rfl
 ·exact oT Tw [[1,2,3,4],[4,5,6,7,8]] [4,3,2,1,0] (dT [0,2,4,8,10,12,0] λb=>dI (cn 6 (odd b))) i (G:=[[0],[0]]) (I:=[0])
 ·exact oT Tw [[1,2,3,4],[4,5,6,7,8]] [4,3,2,1,0] (dT [0,2,4,8,10,12,0] λb=>dI (cn 6 (odd b))) i (G:=[[0],[0]]) (I:=[0])
end
section
noncomputable def A5(b:CK)(a:cl)(c:Nat):CK:={b with last:= .none,field:= .none,us:= .bytes a c}
noncomputable def IK(e:Nat)(b:WC)(a:CK)(c:cl)(d:Nat):Wy aF:=[⟨a.L,A3 e b (A5 a c d),true⟩,⟨a.y.ga,ey a.y.g a.y.nm a.y.qn,false⟩,⟨a.y.x.L,kU b a.y.x a.y.ks,true⟩]
noncomputable def OX(d:Nat)(u:WB)(a:CK)(b:cl)(c:Nat):Spec:=
 ⟨IJ a.y.ga a.L,160,some a.L,⟨IK d (Pm u) a b c,[(a.y.g,iG u a.y.x.L)],λe ω=>[A3 d (Pm u) (A5 a b c),ey a.y.g a.y.nm a.y.qn,kU (Pm u) a.y.x a.y.ks],λω ω=>[.finished],nn,nn,[],nn⟩,λω ω=>.ok .next⟩
variable {a:CK}
theorem IL(h:c<2):aI u (λu=>OX c u a k d):=by
 rcases aP h with rfl|rfl
 ·exact oU 0x132012213 [[1,2]] [2,1,0] (aE []) ⟨λb f e=>tO,cg⟩ (Y:=λu=>[λb f e=>hy a.y.ga a.y.g a.y.nm a.y.qn (iG u a.y.x.L) (zc u a.y.x a.y.ks)]) (G:=[[0]]) (I:=[0])
 ·exact oU 0x132012213 [[1,2]] [2,1,0] (aE []) ⟨λb f e=>tO,cg⟩ (Y:=λu=>[λb f e=>hy a.y.ga a.y.g a.y.nm a.y.qn (iG u a.y.x.L) (zc u a.y.x a.y.ks)]) (G:=[[0]]) (I:=[0])
noncomputable def JY:Nat:=0x13201223310f0f09f1114f1112110015555f07fa07f00110115552
theorem IM(o:c<2)(j:a.y.x.line= #[10])(h:0<=a.y.x.place)(i:a.y.x.place<=(a.y.x.T.size:Nat))(l:a.y.x.T.extract a.y.x.place.toNat a.y.x.T.size=k)(m:a.y.x.T.size<=1000000):aI u (λu=>fv c u a [] k):=by
 have n:aw u (λu=>[λe b f=>ye a.y.ga a.y.g a.y.nm a.y.qn (fe u a.y.x.L) (iG u a.y.x.L) (CY u a.y.x a.y.ks k) 0,λe b f=>OX c u a k (df (aA (b[0]?.getD default) (c+3)))]):=⟨λe b f=>zj j h i l m,λe b f=>IL o,cg⟩
 clear j h i l m;rcases aP o with rfl|rfl
 ·exact oT JY [[1,2],[4,5,6]] [4,3,2,1,0] (dT [2] λd=>dI (cn 6 (odd d))) n (G:=[[0],[0]]) (I:=[0])
 ·exact oT JY [[1,2],[4,5,6]] [4,3,2,1,0] (dT [2] λd=>dI (cn 6 (odd d))) n (G:=[[0],[0]]) (I:=[0])
end
section
noncomputable def kq:Kd->Kd->Bool
 | .parent,.tree=>true
 | .parent,.parent=>true
 | .UK,.tree=>true
 | .UK,.parent=>true
 | .UL,.UK=>true
 | .encoding,.UL=>true
 | .sig,_=>true
 | .tag,_=>true
 | .rename,_=>true
 |_,_=>false
noncomputable def nM(a e:cl):Wy dm->cl->Int->Kd->Prop
 |[],c,b,_=>c= #[10]/\0<=b/\b<=(a.size:Nat)/\a.extract b.toNat a.size=e/\a.size<=1000000
 |d::f,c,b,g=>eQ c (az d.kind) d.rb/\er a b (az d.kind) d.rb d.UP d.np d.lp d.r/\kq d.kind g=true/\nM a e f d.lp ((d.np:Int)+1) d.kind
structure OY(s:CK)(T line:cl)(place:Int)(la:Kd):Prop where
 T:s.y.x.T=T
 line:s.y.x.line=line
 place:s.y.x.place=place
 last:∃t,s.last= .bytes (az la) t
 field:∃f t,s.field= .bytes f t
 us:∃u t,s.us= .bytes u t
variable {d:CK}
theorem A6{c:Wz}(a:d.last=v)(b:d.field=x)(e:d.us=c):{d with last:=v,field:=x,us:=c}=d:=by obtain⟨f,g,h,k,m,n,j,i,l,last,field,us,o⟩:=d;simp only at a b e;subst a b e;rfl
variable {a:Kd}
theorem WW(b:kq .parent a=true):a= .tree\/a= .parent:=by cases a<;>first|exact .inl rfl|exact .inr rfl|exact nomatch b
theorem WX(b:kq .UK a=true):a= .tree\/a= .parent:=by cases a<;>first|exact .inl rfl|exact .inr rfl|exact nomatch b
theorem WY(b:kq .UL a=true):a= .UK:=by cases a<;>first|rfl|exact nomatch b
theorem WZ(b:kq .encoding a=true):a= .UL:=by cases a<;>first|rfl|exact nomatch b
theorem W3(b:kq .tree a=true):False:=by cases a<;>exact nomatch b
theorem i4{b:dm}(i:OY d k l q a)(g:eQ l (az b.kind) b.rb)(h:er k q (az b.kind) b.rb b.UP b.np b.lp b.r):∀c f e,OK u (g5 u d.y (az b.kind) b.rb b.UP b.np b.lp b.r c f e):=by obtain⟨rfl,rfl,rfl,_,_,_⟩:=i;exact λc f e=>fT g h
theorem A7{a:Nat}(d:a<2):∀(n:Wy dm) (q:CK) (s:cl) (t:Int) (r:Kd),nM k l n s t r->OY q k s t r->OK u (fv a u q n l):=by
 intro n;induction n with
 |nil=>
  intro q s t r c m;obtain⟨rfl,rfl,rfl,_,_,_⟩:=m;exact IM d c.1 c.2.1 c.2.2.1 c.2.2.2.1 c.2.2.2.2
 |cons o n b=>
  intro q s t r c m;have f:=i4 (u:=u) m c.1 c.2.1;have b:∀v,OK u (fv a u (dO q o v) n l):=λv=>b _ o.lp ((o.np:Int)+1) o.kind c.2.2.2 ⟨m.T,rfl,rfl,⟨_,rfl⟩,⟨_,_,rfl⟩,⟨_,_,rfl⟩⟩
  have p:=c.2.2.1;obtain⟨H,x⟩:=m.last;obtain⟨C,D,w⟩:=m.field;obtain⟨I,G,y⟩:=m.us;have z:=A6 x w y;clear c m x w y;obtain⟨A,j,e,h,g,i⟩:=o;revert b;refine z▸ ?_;intro b;cases A with
  |tree=>exact(W3 p).elim
  |parent=>
   rcases WW p with rfl|rfl
   ·exact Ew (d0:=⟨.parent,j,e,h,g,i⟩) d f b
   ·exact Ex (d0:=⟨.parent,j,e,h,g,i⟩) d f b
  |UK=>
   rcases WX p with rfl|rfl
   ·exact Et (d0:=⟨.UK,j,e,h,g,i⟩) d f b
   ·exact Eu (d0:=⟨.UK,j,e,h,g,i⟩) d f b
  |UL=>
   obtain rfl:=WY p;exact Ey (d0:=⟨.UL,j,e,h,g,i⟩) d f b
  |encoding=>
   obtain rfl:=WZ p;exact Ez (d0:=⟨.encoding,j,e,h,g,i⟩) d f b
  |sig=>exact EA (d0:=⟨.sig,j,e,h,g,i⟩) d f b
  |tag=>exact EB (d0:=⟨.tag,j,e,h,g,i⟩) d f b
  |rename=>exact EC (d0:=⟨.rename,j,e,h,g,i⟩) d f b
end
structure C0 where
 (L c k0 kp:Nat)
 pb:cl
 (pt kl ga g:Nat)
 (nm qn:Wz)
 (L2 lc tc Va:Nat)
 bs:Wy cl
 F:AL
noncomputable def IP(b:C0)(e:cl)(d:eY)(h:Nat)(i k f:Wz)(l:Nat)(j:ui)(a:AL):CK:=
 ⟨b.L,b.c,b.k0,b.kp,b.pb,b.pt,b.kl,a 2,a 3,.bytes (az .tree) (a 0),.bytes (az .tree) (a 0),.bytes d.r (a 1),⟨b.ga,b.g,b.nm,b.qn,Qq b.L2 b.lc e (az .tree) d.rb d.np d.lp (cn 4 a),HM b.tc (a 15) (a 16) (a 17) (a 18) (a 19) (a 20) (a 21) (a 22) (a 23),h,i,k,f,l,j⟩⟩
noncomputable def R6(c:Nat)(b:WC)(a:C0):Wy WL:=match c with
 |0=>[]
 |_=>[dx b "parent" a.kp (.bytes a.pb a.pt)]
noncomputable def OZ(d:Nat)(b:WC)(a:C0):gi:=ot (dx b "self" a.k0 (.ref a.c)::(R6 d b a++[dx b "last" a.kl .none])) (match d with|0=>2|_=>3)
noncomputable def pf(h:Nat)(b:WC)(a:C0)(c:Nat)(d:Wz)(f:Nat)(e:ui):Wy aF:=[⟨a.L,OZ h b a,true⟩,⟨a.ga,ey a.g a.nm a.qn,false⟩,⟨a.L2,ot [dx b "chunks" a.tc (.ref a.lc)] 1,true⟩,⟨a.lc,cp a.bs a.F a.Va,false⟩,⟨393,ee c,false⟩,⟨c,dq d cZ f e,false⟩]
noncomputable def R7(j:Nat)(u:WB)(a:C0)(k:cl)(l:eY)(f:Wy dm)(m:cl)(d:Nat)(e:Wz)(i:Nat)(h:ui):Spec:=
 ⟨IJ a.ga a.L,200,some a.L,⟨pf j (Pm u) a d e i h,[(a.g,.fresh (eo a.L2))],λb ω=>let c:=A4 j (Pm u) (jq (IP a k l d (kV (b 0)) iF e i h (cn 1 b)) f (cn 26 b)) m (bc f (cn 26 b));[h6 c 0,h6 c 1,h6 c 2,cp a.bs a.F a.Va,ee d,h6 c 4],λω ω=>[.finished],nn,nn,[],λb ω=>[]⟩,λω ω=>.ok .next⟩
noncomputable def TC(b:Nat)(a:uk):AL:=λc=>match c with
 |0=>df (aA (a[0]?.getD default) (b+2))
 |1=>df (aA (a[0]?.getD default) (b+3))
 |2=>dN (a[0]?.getD default) (b+2)
 |3=>dN (a[0]?.getD default) (b+3)
 |6=>hu (aA (a[2]?.getD default) 6)
 |9=>df (aA (a[2]?.getD default) 2)
 |10=>df (aA (a[2]?.getD default) 8)
 |11=>df (aA (a[2]?.getD default) 1)
 |12=>df (aA (a[2]?.getD default) 3)
 |13=>hu (aA (a[2]?.getD default) 4)
 |14=>df (aA (a[2]?.getD default) 9)
 |d=>dN (a[2]?.getD default) (d-14)
noncomputable def O0(u:WB)(a:C0)(c:cl)(b:eY)(e:Nat)(d:Wz)(h:Nat)(f:ui):U:=λi k j=>ye a.ga a.g a.nm a.qn (.fresh (eo a.L2)) (fe u a.L2) (zg u a.L2 a.lc a.tc a.Va e d h f a.bs a.F c b.line (az .tree) b.rb b.n b.UP b.np b.lp b.r) 0
structure mu(bs:Wy cl)(T:cl)(d:eY):Prop where
 ch:dW bs T
 line:dA T 0 d.line d.n
 sp:aB d.line #[32]=false
 Vr:eQ d.line (az .tree) d.rb
 row:er T ((d.n:Int)+1) (az .tree) d.rb d.UP d.np d.lp d.r
noncomputable def JZ:Nat:=0x13201224310f0f09f111011111211001666305fc04f00116662
theorem IQ{b:C0}{cc:Nat}{a:Wz}{tq:Nat}{l:ui}(n:c<2)(d:mu b.bs k P)(i:nM k m Q P.lp ((P.np:Int)+1) .tree):aI u (λu=>R7 c u b k P Q m cc a tq l):=by
 have j:aw u (λu=>[O0 u b k P cc a tq l,λg e h=>fv c u (IP b k P cc (fdOf (e[3]?.getD default)).doc iF a tq l (TC c e)) Q m]):=⟨λg e h=>pW d.ch d.line d.sp d.Vr d.row,λg e h=>A7 n Q _ P.lp ((P.np:Int)+1) .tree i ⟨rfl,rfl,rfl,⟨_,rfl⟩,⟨_,_,rfl⟩,⟨_,_,rfl⟩⟩,cg⟩
 clear d i;rcases aP n with rfl|rfl
 ·exact oT JZ [[1,2,3,4,5],[5,6,7,4,10]] [5,4,3,2,1,0] (dT q4 λf=>dI (cn 6 (odd f))) j (G:=[[0],[0]]) (I:=[0])
 ·exact oT JZ [[1,2,3,4,5],[5,6,7,4,10]] [5,4,3,2,1,0] (dT q4 λf=>dI (cn 6 (odd f))) j (G:=[[0],[0]]) (I:=[0])
section
theorem qo:∀(e:Wy dm) (b:CK) (c:AL),(jq b e c).y.a=b.y.a/\(jq b e c).y.tq=b.y.tq/\(jq b e c).y.l=b.y.l
 |[],b,c=>⟨rfl,rfl,rfl⟩
 |d::e,b,c=>qo e (dO b d c) (cn 7 c)
noncomputable def IR(j:Nat)(u:WB)(a:C0)(k:cl)(l:eY)(i:Wy dm)(m:cl)(d:Nat)(c:Wz)(h:Nat)(f:ui):Spec:=
 ⟨IJ a.ga a.L,200,some a.L,⟨pf j (Pm u) a d c h f,[(a.g,.fresh (eo a.L2))],λb ω=>let e:=A4 j (Pm u) (jq (IP a k l d (kV (b 0)) iF c h f (cn 1 b)) i (cn 26 b)) m (bc i (cn 26 b));[h6 e 0,h6 e 1,h6 e 2,cp a.bs a.F a.Va,ee d,dq c cZ h f],λω ω=>[.finished],nn,nn,[],λb ω=>[]⟩,λω ω=>.ok .next⟩
theorem A8{a:C0}(m:e<2)(f:mu a.bs l P)(j:nM l k Q P.lp ((P.np:Int)+1) .tree):OK u (IR e u a l P Q k c v d L):=by
 refine(IQ (u:=u) (cc:=c) (a:=v) (tq:=d) (l:=L) m f j).alt rfl rfl rfl rfl rfl rfl λb n=>⟨b,n,rfl, ?_,rfl,rfl,rfl,rfl⟩
 obtain⟨g,h,i⟩:=qo Q (IP a l P c (kV (b 0)) iF v d L (cn 1 b)) (cn 26 b);refine(?_:[_,_,_,_,_,_]=[_,_,_,_,_,_]);refine cY rfl (cY rfl (cY rfl (cY rfl (cY rfl (cY ?_ rfl)))));refine(?_:dq _ _ _ _=_);rw[g,h,i];rfl
structure CQ where
 (c d ch lp Va Wl:Nat)
 bs:Wy cl
 (F Fp ks t:AL)
 x:CM
 (T A C:cl)
noncomputable def IS(a:CQ)(b c:Wz):CM:={a.x with U8:=false,U4:= .ref a.ch,parents:= .ref a.lp,tree:= .bytes a.T (a.t 0),UK:= .bytes a.A (a.t 1),UL:= .bytes a.C (a.t 2),Vq:=b,Vo:=c}
noncomputable def uO(e:WC)(a:CQ)(j:Wy cl)(h i:Wz)(b:Nat)(f:Wz)(k:Nat)(g:ui):Wy (Nat×gi):=[(a.c,eu 888 a.d),(a.d,o9 0 e (IS a h i) a.ks),(a.ch,cp a.bs a.F a.Va),(a.lp,cp j a.Fp a.Wl),(393,ee b),(b,dq f cZ k g)]
noncomputable def ED(b:WC)(a:CQ)(j:Wy cl)(h i:Int)(f:Nat)(e:Wz)(k:Nat)(g:ui):Spec:=
 ⟨ul 684 [.ref a.c],240,none,UM (uO b a j (.int h (a.t 3)) (.int i (a.t 4)) f e k g) (λω=>[eu 888 a.d,o9 0 b (IS a (.int h (a.t 3)) (.int i (a.t 4))) a.ks,cp a.bs a.F a.Va,cp j a.Fp a.Wl,ee f,dq e cZ k g]) (λω=>[]),λω ω=>uj .none⟩
noncomputable def aR(b:WC)(a:CQ)(j:Wy cl)(h i:Wz)(e:Nat)(d:Wz)(k:Nat)(g:ui)(f:AL->Wz):Spec:=F7 (.call (.ref 684) ⟨[.ref a.c],[]⟩) 240 (uO b a j h i e d k g) (.ref 44) f
noncomputable def O1(c:WC)(a:CQ)(e:Wy cl):U:=λb d f=>OW c a.c (dN (d[0]?.getD default) 0) (be b) a.lp (Dp b) a.Wl e a.Fp
noncomputable def oB(a:Int)(b:Nat):Spec:=⟨ul 207 [.int a b],20,none,UM [] (λω=>[]) (λω=>[]),λω ω=>uj .none⟩
noncomputable def QJ(a:Wy cl):Nat:=match a with
 |[]=>0
 |_=>1
noncomputable def EE(b:CQ)(h:Nat)(f:cl)(g:Nat)(c:Code)(e:uk)(a:AL):C0:=let d:=e[0]?.getD default
 ⟨Dp c,b.c,dN d 0,dN d 1,f,g,dN d (h+1),be c,a 1,F5 (a 3),F5 (a 4),a 2,b.ch,a 5,b.Va,b.bs,b.F⟩
noncomputable def xO(c:WC)(b:CQ)(d:Wy cl):Wy U:=[O1 c b d,λa f e=>rI b.T (tk a 0) (lq "invalid tree sha") (tk a 1)]
noncomputable def A9(b:CQ):Wy U:=[λa d c=>OL b.A (tk a 0) (lq "invalid author") (tk a 1),λa d c=>OL b.C (tk a 0) (lq "invalid committer") (tk a 1)]
structure Bb(u:WB)(q:CQ)(ps:Wy cl):Prop where
 n3:ps.length<=3
 hx:∀p∈ps,ff p
 T:ff q.T
variable {b:Wy cl}
theorem jI{q:CQ}(d:Bb u q b):∀a e c,OK u (O1 (Pm u) q b a e c):=λa e c=>II d.n3 d.hx
noncomputable def kr(u:WB)(a:cl)(b:Str):Prop:=∀c d,OK u (OL a c b d)
noncomputable def xP(u:WB)(a:Int):Prop:=∀b,OK u (oB a b)
noncomputable def QH:Nat:=0x151ff805f2213f346f11100f12ff12f1e14f01f12ff12ff12ff12ff12f2331bf3113f330466016101f28ff3bff51ff51ff51ff51f751fe12ff13ff15f501f17f5013303207f0140000044050111011111
variable {a:CQ}
theorem IT(h:Bb u a b)(n:kr u a.A (lq "invalid author"))(o:kr u a.C (lq "invalid committer"))(j:xP u q)(m:xP u r)(s:mu a.bs l P)(p:nM l k Q P.lp ((P.np:Int)+1) .tree):aI u (λu=>ED (Pm u) a b q r c v d L):=by
 match b,h with
 |[],h=>
  have i:aw u (λu=>xO (Pm u) a []++A9 a++[λe g f=>oB q (tk e 0),λe g f=>oB r (tk e 0),λe g f=>qH (Pm u) a.ch,λe g f=>IR 0 u (EE a 0 #[] 0 e g (cH f 0)) l P Q k c v d L]):=⟨jI h,λe g f=>gF h.T,λe g f=>n _ _,λe g f=>o _ _,λe g f=>j _,λe g f=>m _,λe g f=>gv,λe g f=>A8 (by decide) s p,cg⟩
  exact oT QH [[2,0,6],[],[],[],[],[],[],[4,0,1,7,9,10]] [5,4,3,2,1,0] (aE []) i (G:=[[],[],[],[],[],[],[],[0]])
 |t::b,h=>
  have i:aw u (λu=>xO (Pm u) a (t::b)++A9 a++[λe g f=>oB q (tk e 0),λe g f=>oB r (tk e 0),λe g f=>qH (Pm u) a.ch,λe g f=>IR 1 u (EE a 1 (nw t b) (a.Fp b.length) e g (cH f 0)) l P Q k c v d L]):=⟨jI h,λe g f=>gF h.T,λe g f=>n _ _,λe g f=>o _ _,λe g f=>j _,λe g f=>m _,λe g f=>gv,λe g f=>A8 (by decide) s p,cg⟩
  exact oT QH [[2,0,6],[],[],[],[],[],[],[4,0,1,7,9,10]] [5,4,3,2,1,0] (aE []) i (G:=[[],[],[],[],[],[],[],[0]])
theorem EF:aI u (λu=>aR (Pm u) a b .none (.int r (a.t 4)) c v d L (λω=>.none)):=
 oU 0x151ff805f23a8f33abf100f12ff12f1f4df1f12ff12ff12f2332af3117f3304309f30ff30af02101100f0110101022222022021311 [[]] [5,4,3,2,1,0,9,11] (aE [14,15,17,0]) ⟨es,cg⟩ (Y:=λω=>[hE]) (Z:=g4 [13])
theorem EG(h:Bb u a b)(k:kr u a.A (lq "invalid author"))(l:kr u a.C (lq "invalid committer"))(j:xP u q):aI u (λu=>aR (Pm u) a b (.int q (a.t 3)) (.int 9223372036854775808 (a.t 4)) c v d L (λi=>.ref (i 4))):=by
 have m:aw u (λu=>xO (Pm u) a b++A9 a++[λe g f=>oB q (tk e 0),λe g f=>SV (tk e 0)]):=⟨jI h,λe g f=>gF h.T,λe g f=>k _ _,λe g f=>l _ _,λe g f=>j _,λe g f=>HS,cg⟩
 exact oT 0x151ff805f2213f346f11100f12ff12f1e14f01f12ff12ff12ff12ff12f2331bf3113f330466016101f28ff3bff51ff51ff51ff51f63bff12ff13ff15f50103207f0140000044050101211 [[2,0,6],[],[],[],[],[]] [5,4,3,2,1,0,10,11] (aE [165,229,197,0,293]) m (Z:=g4 [181])
theorem EH{q r:Int}{c:Nat}{v:Wz}{d:Nat}{L:ui}(f:Bb u a b):aI u (λu=>aR (Pm u) {a with A:=uM} b (.int q (a.t 3)) (.int r (a.t 4)) c v d L (λi=>.ref (i 4))):=by
 have j:aw u (λu=>xO (Pm u) {a with A:=uM} b++[λe h g=>OM (tk e 0) (lq "invalid author") (tk e 1)]):=⟨jI (q:={a with A:=uM}) ⟨f.n3,f.hx,f.T⟩,λe h g=>gF f.T,λe h g=>ID,cg⟩
 exact oT 0x151ff805f2213f346f11100f12ff12f1e14f01f12ff12ff12ff12ff12f2331bf3113f330466016101f28ff3bf0501f12ff13f03207f0140000044050101211 [[2,0,6],[],[]] [5,4,3,2,1,0,10,11] (aE [41,49,45,0,57]) j (Z:=g4 [37])
end
section
noncomputable def O2(c:CK)(b:dm)(a:AL):CK:={c with field:= .bytes (az b.kind) (a 0),us:= .bytes b.r (a 3),y:=tR c.y (az b.kind) b.rb b.np b.lp (a 0) (a 1) (a 2) (a 4) (a 5)}
noncomputable def Gv(d:CK)(b:Wy dm)(c:dm)(a:AL):CK:=O2 (jq d b a) c (bc b a)
noncomputable def Gw(b:Nat)(a:AL)(c:SL):Wy aF:=[⟨a 6,Qr (.ref 44) (a 7) (a 8),false⟩,⟨a 8,yr .none b (restOf (c 0)),false⟩]
noncomputable def Bc(d:Nat)(c:WC)(b:CK):uk:=[A3 d c b,ey b.y.g b.y.nm b.y.qn,nq c b.y.x b.y.ks,e8 b.y.cc b.y.doc b.y.pm,dq b.y.a cZ b.y.tq b.y.l]
noncomputable def iL(d:Nat)(u:WB)(a:CK)(c:Wy dm)(e:dm):Spec:=
 ⟨IJ a.y.ga a.L,160,some a.L,⟨Gu d (Pm u) a,[(a.y.g,fe u a.y.x.L)],λb ω=>Bc d (Pm u) (Gv a c e b),λω ω=>[fe u a.y.x.L],λb f=>Gw a.L (bc c b) f,nn,[],nn⟩,λb ω=>.error (.ref (bc c b 6))⟩
noncomputable def J0:Nat:=0x13201223310f0f09f111ff1112110015555404f115325f12309f30ff30af02101100f0110101022222022021
noncomputable def TF:uh:=[0,2,4,8,10,12,19,23,31]
variable {d0:dm} {a:CK}
theorem sm{e:Nat}{k us:cl}{c d:Nat}(j:f<2)(i:∀g l h,OK u (g5 u a.y (az .parent) d0.rb d0.UP d0.np d0.lp d0.r g l h)):aI u (λu=>iL f u {a with last:= .bytes (az .UK) e,field:= .bytes k c,us:= .bytes us d} [] (cu d0 .parent)):=by
 have b:aw u (λu=>[g5 u a.y (az .parent) (cu d0 .parent).rb (cu d0 .parent).UP (cu d0 .parent).np (cu d0 .parent).lp (cu d0 .parent).r]++[oA .parent .tree .UK false]++[hE]):=⟨i,iK rfl,es,cg⟩
 rcases aP j with rfl|rfl
 ·exact oT J0 [[1,2,3,4],[0],[]] [4,3,2,1,0,11,13] (aE TF) b (G:=[[0],[],[]]) (I:=[0]) (Z:=g4 [21])
 ·exact oT J0 [[1,2,3,4],[0],[]] [4,3,2,1,0,11,13] (aE TF) b (G:=[[0],[],[]]) (I:=[0]) (Z:=g4 [21])
noncomputable def TB:Nat:=0x13201223310f0f09f1110111112110015555f04f204f5001409f30ff30af02101100f0110101022222022021
noncomputable def QK:uh:=[0,2,4,8,10,12,13,15,19]
theorem sn{e:Nat}{k us:cl}{c d:Nat}(j:f<2)(i:∀g l h,OK u (g5 u a.y (az .encoding) d0.rb d0.UP d0.np d0.lp d0.r g l h)):aI u (λu=>iL f u {a with last:= .bytes (az .UK) e,field:= .bytes k c,us:= .bytes us d} [] (cu d0 .encoding)):=by
 have b:aw u (λu=>[g5 u a.y (az .encoding) (cu d0 .encoding).rb (cu d0 .encoding).UP (cu d0 .encoding).np (cu d0 .encoding).lp (cu d0 .encoding).r]++[]++[hE]):=⟨i,es,cg⟩
 rcases aP j with rfl|rfl
 ·exact oT TB [[1,2,3,4],[]] [4,3,2,1,0,10,12] (aE QK) b (G:=[[0],[]]) (I:=[0]) (Z:=g4 [23])
 ·exact oT TB [[1,2,3,4],[]] [4,3,2,1,0,10,12] (aE QK) b (G:=[[0],[]]) (I:=[0]) (Z:=g4 [23])
noncomputable def QI:Nat:=0x13201223310f0f09f1110111112110015555500115309f30ff30af02101100f0110101022222022021
theorem Be{e:Nat}{k us:cl}{c d:Nat}(j:f=0)(h:∀b l g,OK u (g5 u a.y (az .tree) d0.rb d0.UP d0.np d0.lp d0.r b l g)):aI u (λu=>iL f u {a with last:= .bytes (az .tree) e,field:= .bytes k c,us:= .bytes us d} [] (cu d0 .tree)):=by
 have i:aw u (λu=>[g5 u a.y (az .tree) (cu d0 .tree).rb (cu d0 .tree).UP (cu d0 .tree).np (cu d0 .tree).lp (cu d0 .tree).r]++[]++[hE]):=⟨h,es,cg⟩
 subst j;exact oT QI [[1,2,3,4],[]] [4,3,2,1,0,10,12] (aE QK) i (G:=[[0],[]]) (I:=[0]) (Z:=g4 [15])
theorem Bf{e:Nat}{k us:cl}{c d:Nat}(j:f=1)(h:∀b l g,OK u (g5 u a.y (az .tree) d0.rb d0.UP d0.np d0.lp d0.r b l g)):aI u (λu=>iL f u {a with last:= .bytes (az .parent) e,field:= .bytes k c,us:= .bytes us d} [] (cu d0 .tree)):=by
 have i:aw u (λu=>[g5 u a.y (az .tree) (cu d0 .tree).rb (cu d0 .tree).UP (cu d0 .tree).np (cu d0 .tree).lp (cu d0 .tree).r]++[]++[hE]):=⟨h,es,cg⟩
 subst j;exact oT QI [[1,2,3,4],[]] [4,3,2,1,0,10,12] (aE QK) i (G:=[[0],[]]) (I:=[0]) (Z:=g4 [15])
variable {b:dm} {us:cl}
theorem Bg(j:∀h f i,OK u (g5 u a.y (az .parent) d0.rb d0.UP d0.np d0.lp d0.r h f i))(m:∀g,OK u (iL 1 u (dO {a with last:= .bytes (az .tree) e,field:= .bytes k c,us:= .bytes us d} (cu d0 .parent) g) Q b)):aI u (λu=>iL 1 u {a with last:= .bytes (az .tree) e,field:= .bytes k c,us:= .bytes us d} (cu d0 .parent::Q) b):=by
 have l:aw u (λu=>[g5 u a.y (az .parent) (cu d0 .parent).rb (cu d0 .parent).UP (cu d0 .parent).np (cu d0 .parent).lp (cu d0 .parent).r,oA .parent .tree .tree true,λh f i=>iL 1 u (dO ({a with last:= .bytes (az .tree) e,field:= .bytes k c,us:= .bytes us d}:CK) (cu d0 .parent) (lM 1 f)) Q b]):=⟨j,iK rfl,λh f i=>m _,cg⟩
 exact oT QF [[1,2,3,4],[0],[5,6,7,8,9]] [4,3,2,1,0,11,10] (dT [0,2,4,8,10,12,0] λg=>dI (cn 1 (odd (cn 6 (odd g))))) l (G:=[[0],[],[0]]) (I:=[0]) (Z:=g4 [41])
theorem Bh(j:∀h f i,OK u (g5 u a.y (az .parent) d0.rb d0.UP d0.np d0.lp d0.r h f i))(m:∀g,OK u (iL 1 u (dO {a with last:= .bytes (az .parent) e,field:= .bytes k c,us:= .bytes us d} (cu d0 .parent) g) Q b)):aI u (λu=>iL 1 u {a with last:= .bytes (az .parent) e,field:= .bytes k c,us:= .bytes us d} (cu d0 .parent::Q) b):=by
 have l:aw u (λu=>[g5 u a.y (az .parent) (cu d0 .parent).rb (cu d0 .parent).UP (cu d0 .parent).np (cu d0 .parent).lp (cu d0 .parent).r,oA .parent .tree .parent true,λh f i=>iL 1 u (dO ({a with last:= .bytes (az .parent) e,field:= .bytes k c,us:= .bytes us d}:CK) (cu d0 .parent) (lM 1 f)) Q b]):=⟨j,iK rfl,λh f i=>m _,cg⟩
 exact oT QF [[1,2,3,4],[0],[5,6,7,8,9]] [4,3,2,1,0,11,10] (dT [0,2,4,8,10,12,0] λg=>dI (cn 1 (odd (cn 6 (odd g))))) l (G:=[[0],[],[0]]) (I:=[0]) (Z:=g4 [41])
theorem Bi(j:∀h f i,OK u (g5 u a.y (az .UK) d0.rb d0.UP d0.np d0.lp d0.r h f i))(m:∀g,OK u (iL 0 u (dO {a with last:= .bytes (az .tree) e,field:= .bytes k c,us:= .bytes us d} (cu d0 .UK) g) Q b)):aI u (λu=>iL 0 u {a with last:= .bytes (az .tree) e,field:= .bytes k c,us:= .bytes us d} (cu d0 .UK::Q) b):=by
 have l:aw u (λu=>[g5 u a.y (az .UK) (cu d0 .UK).rb (cu d0 .UK).UP (cu d0 .UK).np (cu d0 .UK).lp (cu d0 .UK).r,oA .tree .parent .tree true,λh f i=>iL 0 u (dO ({a with last:= .bytes (az .tree) e,field:= .bytes k c,us:= .bytes us d}:CK) (cu d0 .UK) (lM 0 f)) Q b]):=⟨j,iK rfl,λh f i=>m _,cg⟩
 exact oT Tv [[1,2,3,4],[0],[5,6,7,8,9]] [4,3,2,1,0,11,10] (dT [0,2,4,8,10,12,0] λg=>dI (cn 1 (odd (cn 6 (odd g))))) l (G:=[[0],[],[0]]) (I:=[0]) (Z:=g4 [39])
theorem Bj(j:∀h f i,OK u (g5 u a.y (az .UK) d0.rb d0.UP d0.np d0.lp d0.r h f i))(m:∀g,OK u (iL 1 u (dO {a with last:= .bytes (az .parent) e,field:= .bytes k c,us:= .bytes us d} (cu d0 .UK) g) Q b)):aI u (λu=>iL 1 u {a with last:= .bytes (az .parent) e,field:= .bytes k c,us:= .bytes us d} (cu d0 .UK::Q) b):=by
 have l:aw u (λu=>[g5 u a.y (az .UK) (cu d0 .UK).rb (cu d0 .UK).UP (cu d0 .UK).np (cu d0 .UK).lp (cu d0 .UK).r,oA .tree .parent .parent true,λh f i=>iL 1 u (dO ({a with last:= .bytes (az .parent) e,field:= .bytes k c,us:= .bytes us d}:CK) (cu d0 .UK) (lM 1 f)) Q b]):=⟨j,iK rfl,λh f i=>m _,cg⟩
 exact oT Tv [[1,2,3,4],[0],[5,6,7,8,9]] [4,3,2,1,0,11,10] (dT [0,2,4,8,10,12,0] λg=>dI (cn 1 (odd (cn 6 (odd g))))) l (G:=[[0],[],[0]]) (I:=[0]) (Z:=g4 [39])
end
section
noncomputable def QL(a:Nat)(c b:Kd):Bool:=match c with
 | .parent=>(match b with
  | .tree=>Nat.beq a 1
  | .parent=>Nat.beq a 1
  |_=>false)
 | .UK=>(match b with
  | .tree=>Nat.beq a 0
  | .parent=>Nat.beq a 1
  |_=>false)
 |_=>false
noncomputable def O3(b:Nat)(c a:Kd):Bool:=match c with
 | .parent=>(match a with
  | .UK=>true
  |_=>false)
 | .encoding=>(match a with
  | .UK=>true
  |_=>false)
 | .tree=>(match a with
  | .tree=>Nat.beq b 0
  | .parent=>Nat.beq b 1
  |_=>false)
 |_=>false
variable {b a:Kd}
theorem W4(d:QL c b a=true):(b= .parent/\c=1/\a= .tree)\/(b= .parent/\c=1/\a= .parent)\/(b= .UK/\c=0/\a= .tree)\/(b= .UK/\c=1/\a= .parent):=by
 cases b with
 |parent=>
  cases a with
  |tree=>exact .inl ⟨rfl,Nat.eq_of_beq_eq_true d,rfl⟩
  |parent=>exact .inr (.inl ⟨rfl,Nat.eq_of_beq_eq_true d,rfl⟩)
  |_=>exact nomatch d
 |UK=>
  cases a with
  |tree=>exact .inr (.inr (.inl ⟨rfl,Nat.eq_of_beq_eq_true d,rfl⟩))
  |parent=>exact .inr (.inr (.inr ⟨rfl,Nat.eq_of_beq_eq_true d,rfl⟩))
  |_=>exact nomatch d
 |_=>exact nomatch d
theorem yz(d:O3 c b a=true):(b= .parent/\a= .UK)\/(b= .encoding/\a= .UK)\/(b= .tree/\c=0/\a= .tree)\/(b= .tree/\c=1/\a= .parent):=by
 cases b with
 |parent=>
  cases a with
  |UK=>exact .inl ⟨rfl,rfl⟩
  |_=>exact nomatch d
 |encoding=>
  cases a with
  |UK=>exact .inr (.inl ⟨rfl,rfl⟩)
  |_=>exact nomatch d
 |tree=>
  cases a with
  |tree=>exact .inr (.inr (.inl ⟨rfl,Nat.eq_of_beq_eq_true d,rfl⟩))
  |parent=>exact .inr (.inr (.inr ⟨rfl,Nat.eq_of_beq_eq_true d,rfl⟩))
  |_=>exact nomatch d
 |_=>exact nomatch d
noncomputable def nN(g:Nat)(b:cl)(a:dm):Wy dm->cl->Int->Kd->Prop
 |[],e,f,c=>eQ e (az a.kind) a.rb/\er b f (az a.kind) a.rb a.UP a.np a.lp a.r/\O3 g a.kind c=true
 |d::h,e,f,c=>eQ e (az d.kind) d.rb/\er b f (az d.kind) d.rb d.UP d.np d.lp d.r/\QL g d.kind c=true/\nN g b a h d.lp ((d.np:Int)+1) d.kind
variable {d:dm}
theorem wb(z:c<2):∀(m:Wy dm) (r:CK) (t:cl) (v:Int) (s:Kd),nN c k d m t v s->OY r k t v s->OK u (iL c u r m d):=by
 intro m;induction m with
 |nil=>
  intro r t v s b a;have f:=i4 (u:=u) a b.1 b.2.1;have x:=b.2.2;obtain⟨H,p⟩:=a.last;obtain⟨A,D,o⟩:=a.field;obtain⟨I,G,q⟩:=a.us;have w:=A6 p o q;clear b a p o q;obtain⟨C,j,e,h,g,i⟩:=d;refine w▸ ?_;rcases yz x with⟨rfl,rfl⟩|⟨rfl,rfl⟩|⟨rfl,rfl,rfl⟩|⟨rfl,rfl,rfl⟩
  ·exact sm (d0:=⟨.parent,j,e,h,g,i⟩) z f
  ·exact sn (d0:=⟨.encoding,j,e,h,g,i⟩) z f
  ·exact Be (d0:=⟨.tree,j,e,h,g,i⟩) rfl f
  ·exact Bf (d0:=⟨.tree,j,e,h,g,i⟩) rfl f
 |cons n m l=>
  intro r t v s b a;have f:=i4 (u:=u) a b.1 b.2.1;have l:∀y,OK u (iL c u (dO r n y) m d):=λy=>l _ n.lp ((n.np:Int)+1) n.kind b.2.2.2 ⟨a.T,rfl,rfl,⟨_,rfl⟩,⟨_,_,rfl⟩,⟨_,_,rfl⟩⟩
  have x:=b.2.2.1;obtain⟨H,p⟩:=a.last;obtain⟨A,D,o⟩:=a.field;obtain⟨I,G,q⟩:=a.us;have w:=A6 p o q;clear b a p o q;obtain⟨C,j,e,h,g,i⟩:=n;revert l;refine w▸ ?_;intro l;rcases W4 x with⟨rfl,rfl,rfl⟩|⟨rfl,rfl,rfl⟩|⟨rfl,rfl,rfl⟩|⟨rfl,rfl,rfl⟩
  ·exact Bg (d0:=⟨.parent,j,e,h,g,i⟩) f l
  ·exact Bh (d0:=⟨.parent,j,e,h,g,i⟩) f l
  ·exact Bi (d0:=⟨.UK,j,e,h,g,i⟩) f l
  ·exact Bj (d0:=⟨.UK,j,e,h,g,i⟩) f l
noncomputable def gn(l:Nat)(b:WC)(j:C0)(c:cl)(f:eY)(h:Wy dm)(g:dm)(e:Nat)(d:Wz)(k:Nat)(i:ui)(a:AL):uk:=Bc l b (Gv (IP j c f e (kV (a 0)) iF d k i (cn 1 a)) h g (cn 26 a))
noncomputable def so(j:Nat)(u:WB)(a:C0)(k:cl)(l:eY)(e:Wy dm)(m:dm)(d:Nat)(f:Wz)(i:Nat)(h:ui):Spec:=
 ⟨IJ a.ga a.L,200,some a.L,⟨pf j (Pm u) a d f i h,[(a.g,.fresh (eo a.L2))],λb ω=>let c:=gn j (Pm u) a k l e m d f i h b;[h6 c 0,h6 c 1,h6 c 2,cp a.bs a.F a.Va,ee d,h6 c 4],λω ω=>[fe u a.L2],λb n=>Gw a.L (bc e (cn 26 b)) n,nn,[],λb ω=>[]⟩,λb ω=>.error (.ref (bc e (cn 26 b) 6))⟩
theorem EI{b:C0}{cc:Nat}{a:Wz}{tq:Nat}{l:ui}(n:c<2)(e:mu b.bs k P)(j:nN c k d Q P.lp ((P.np:Int)+1) .tree):aI u (λu=>so c u b k P Q d cc a tq l):=by
 have m:aw u (λu=>[O0 u b k P cc a tq l,λh f i=>iL c u (IP b k P cc (fdOf (f[3]?.getD default)).doc iF a tq l (TC c f)) Q d]):=⟨λh f i=>pW e.ch e.line e.sp e.Vr e.row,λh f i=>wb n Q _ P.lp ((P.np:Int)+1) .tree j ⟨rfl,rfl,rfl,⟨_,rfl⟩,⟨_,_,rfl⟩,⟨_,_,rfl⟩⟩,cg⟩
 clear e j;rcases aP n with rfl|rfl
 ·exact oT JZ [[1,2,3,4,5],[5,6,7,4,10]] [5,4,3,2,1,0,12,11] (dT q4 λg=>dI (cn 6 (odd g))) m (G:=[[0],[0]]) (I:=[0]) (Z:=g4 [27])
 ·exact oT JZ [[1,2,3,4,5],[5,6,7,4,10]] [5,4,3,2,1,0,12,11] (dT q4 λg=>dI (cn 6 (odd g))) m (G:=[[0],[0]]) (I:=[0]) (Z:=g4 [27])
noncomputable def nO(i:Nat)(u:WB)(a:C0)(j:cl)(k:eY)(m:Wy dm)(l:dm)(d:Nat)(c:Wz)(h:Nat)(f:ui):Spec:=
 ⟨IJ a.ga a.L,200,some a.L,⟨pf i (Pm u) a d c h f,[(a.g,.fresh (eo a.L2))],λb ω=>let e:=gn i (Pm u) a j k m l d c h f (cn 3 b);[h6 e 0,h6 e 1,h6 e 2,cp a.bs a.F a.Va,ee d,dq c cZ h f],λω ω=>[fe u a.L2],λb n=>[⟨b 0,Qr (.ref 44) (b 1) (b 2),false⟩,⟨b 2,yr .none a.L (restOf (n 0)),false⟩],nn,[],λb ω=>[]⟩,λb ω=>.error (.ref (b 0))⟩
section
variable {w:WG} {b1 b2:Bool} {z:Nat} {q:C0} {T:cl} {d:eY} {ds:Wy dm} {db:dm} {cc:Nat} {a:Wz} {tq:Nat} {l:ui} (al:AL) (sl:SL)
noncomputable def O4(ds:Wy dm)(al:AL):AL:=cons (bc ds (cn 26 al) 6) (cons (bc ds (cn 26 al) 7) (cons (bc ds (cn 26 al) 8) al))
theorem R8:(so z u q T d ds db cc a tq l).res al sl=(nO z u q T d ds db cc a tq l).res (O4 ds al) sl:=rfl
theorem R9:(so z u q T d ds db cc a tq l).UM.new al sl=(nO z u q T d ds db cc a tq l).UM.new (O4 ds al) sl:=rfl
theorem Sa:h6 (gn z (Pm u) q T d ds db cc a tq l al) 4=dq a cZ tq l:=by obtain⟨b,c,e⟩:=qo ds (IP q T d cc (kV (al 0)) iF a tq l (cn 1 al)) (cn 26 al);refine(?_:dq (jq _ ds _).y.a cZ (jq _ ds _).y.tq (jq _ ds _).y.l=_);rw[b,c,e];rfl
theorem Sb:(so z u q T d ds db cc a tq l).UM.post al sl=[h6 (gn z (Pm u) q T d ds db cc a tq l al) 0,h6 (gn z (Pm u) q T d ds db cc a tq l al) 1,h6 (gn z (Pm u) q T d ds db cc a tq l al) 2,cp q.bs q.F q.Va,ee cc,h6 (gn z (Pm u) q T d ds db cc a tq l al) 4]:=rfl
theorem Sc:(nO z u q T d ds db cc a tq l).UM.post al sl=[h6 (gn z (Pm u) q T d ds db cc a tq l (cn 3 al)) 0,h6 (gn z (Pm u) q T d ds db cc a tq l (cn 3 al)) 1,h6 (gn z (Pm u) q T d ds db cc a tq l (cn 3 al)) 2,cp q.bs q.F q.Va,ee cc,dq a cZ tq l]:=rfl
theorem Sd:(so z u q T d ds db cc a tq l).UM.post al sl=(nO z u q T d ds db cc a tq l).UM.post (O4 ds al) sl:=by rw[Sb,Sc,Sa,show cn 3 (O4 ds al)=al from rfl]
end
theorem wc{b:C0}{a:Nat}(l:c<2)(i:mu b.bs k P)(j:nN c k d Q P.lp ((P.np:Int)+1) .tree):OK u (nO c u b k P Q d a v e L):=
 ct.alt (S:=so c u b k P Q d a v e L) (EI (u:=u) (cc:=a) (a:=v) (tq:=e) (l:=L) l i j) rfl rfl rfl (show pf c (Pm u) b a v e L=pf c (Pm u) b a v e L from rfl) (show[(b.g,GenState.fresh (eo b.L2))]=[(b.g,GenState.fresh (eo b.L2))]from rfl) (show([]:Wy jz)=[]from rfl) λf h=>⟨O4 Q f,h,R8 f h,Sd f h,(show[fe u b.L2]=[fe u b.L2]from rfl),R9 f h,(show([]:Wy (Nat×WI))=[]from rfl),(show([]:Wy jz)=[]from rfl)⟩
noncomputable def TD:Nat:=0x151ff805f2213f346f11100f12ff12f1e14f01f12ff12ff12ff12ff12f2331bf3113f330466016101f28ff3bff51ff51ff51ff51f751fe12ff13ff15f501f17f5013303207f01400000440501110200f12201122
theorem qp{b:CQ}{c:Wy cl}{a:Nat}(i:Bb u b c)(o:kr u b.A (lq "invalid author"))(p:kr u b.C (lq "invalid committer"))(m:xP u q)(n:xP u r)(s:mu b.bs k P)(j:nN (QJ c) k d Q P.lp ((P.np:Int)+1) .tree):aI u (λu=>aR (Pm u) b c (.int q (b.t 3)) (.int r (b.t 4)) a v e L (λω=>.none)):=by
 match c,i,j with
 |[],i,j=>
  have l:aw u (λu=>xO (Pm u) b []++A9 b++[λf h g=>oB q (tk f 0),λf h g=>oB r (tk f 0),λf h g=>qH (Pm u) b.ch,λf h g=>nO 0 u (EE b 0 #[] 0 f h (cH g 0)) k P Q d a v e L]):=⟨jI i,λf h g=>gF i.T,λf h g=>o _ _,λf h g=>p _ _,λf h g=>m _,λf h g=>n _,λf h g=>gv,λf h g=>wc (by decide) s j,cg⟩
  exact oT TD [[2,0,6],[],[],[],[],[],[],[4,0,1,7,9,10]] [5,4,3,2,1,0,12,11] (aE [389,645,901,0]) l (G:=[[],[],[],[],[],[],[],[0]]) (Z:=g4 [437])
 |w::c,i,j=>
  have l:aw u (λu=>xO (Pm u) b (w::c)++A9 b++[λf h g=>oB q (tk f 0),λf h g=>oB r (tk f 0),λf h g=>qH (Pm u) b.ch,λf h g=>nO 1 u (EE b 1 (nw w c) (b.Fp c.length) f h (cH g 0)) k P Q d a v e L]):=⟨jI i,λf h g=>gF i.T,λf h g=>o _ _,λf h g=>p _ _,λf h g=>m _,λf h g=>n _,λf h g=>gv,λf h g=>wc (by decide) s j,cg⟩
  exact oT TD [[2,0,6],[],[],[],[],[],[],[4,0,1,7,9,10]] [5,4,3,2,1,0,12,11] (aE [389,645,901,0]) l (G:=[[],[],[],[],[],[],[],[0]]) (Z:=g4 [437])
end
noncomputable def t7:cl:= #[65,32,60,98,62,32,53,32,48,49,48,48]
noncomputable def Ul(c b a:Nat):gi:=⟨.ref 44,none,.fields #[.ref c,.ref b,.ref a,.ref a,.bool true,.none],#[]⟩
noncomputable def O5(b:Wz)(a:AL)(c:SL):Wy aF:=[⟨a 0,Ul (a 1) (a 2) (a 5),false⟩,⟨a 2,SU b (a 3) (restOf (c 0)),false⟩]
noncomputable def Se(c:Code)(d:Nat)(b:Wy (Nat×gi))(e:AL->Wz):Spec:=⟨c,d,none,⟨pl b,[],λω ω=>b.map (·.2),nn,λa f=>O5 (e a) a f,nn,[],nn⟩,λa ω=>.error (.ref (a 0))⟩
noncomputable def TK(a:Nat):Spec:=Se (.call (.ref 634) ⟨[.bytes t7 a],[]⟩) 60 [] λω=>.none
theorem O6:aI u (λω=>TK d):=
 oT 0x1377f120485f01180ff1c5f110218f113330503f10f09f133af131f017777007317f117707359f23bf101134af211011110300f21159f41103004044110dd0dd00dd209f30ff30af05101100f0110101022210d22077100f2021601722111d11d11d11d305f31120311 [[]] [14,16] (aE [47,49,51,0,0,36]) ⟨rS,cg⟩ (Y:=λω=>[zD]) (Z:=g4 [38])
structure Gx(x:Rd)(sg:WA cl):Prop where
 ch:dW [x.T] x.T
 line:dA x.T 0 x.d.line x.d.n
 sp:aB x.d.line #[32]=false
 Vr:eQ x.d.line (az .tree) x.d.rb
 row:er x.T ((x.d.n:Int)+1) (az .tree) x.d.rb x.d.UP x.d.np x.d.lp x.d.r
 hex:ff x.d.r
 VP:gd x.T x.msg x.ds x.d.lp ((x.d.np:Int)+1) true false false false 0
 sum:kY x.ds (h8 x sg) x.A x.C
noncomputable def IU(c:cl)(b f h a:Nat)(d:Wz)(i:Nat)(g:ui):Spec:=
 Se (.call (.ref 649) ⟨[.ref b],[]⟩) 215 [(b,cp [c] (λω=>h) f),(393,ee a),(a,dq d cZ i g)] λe=>.ref (e 4)
theorem IV{x:Rd}(b:Gx {x with A:=t7} V):aI u (λω=>IU x.T e f g a v c L):=by
 have k:aw u (λu=>[λh j i=>qH (Pm u) e,λh j i=>tV u (pZ h j (cH i 0) 6 e f g x.T) x.T x.d x.ds x.msg a v c L t7 x.C (h8 {x with A:=t7} V),λh j i=>TK (tk h 0)]):=⟨λh j i=>gv,λh j i=>vE (zm b.ch b.line b.sp b.Vr b.row b.hex b.VP) b.sum,λh j i=>O6,cg⟩
 exact oT 0x1000422f0220700f3044440401110111110088888080101211 [[],[5,0,1,6,7,8,4,3,2],[]] [2,1,0,12,13] (aE [31,39,35,0,47,71]) k (G:=[[],[0],[]]) (Z:=g4 [54])
noncomputable def EJ(b:cl)(f a:Nat)(c:Wz)(g:Nat)(e:ui):Spec:=
 Se (.call (.ref 277) ⟨[.ref 888,.bytes b f],[]⟩) 260 [(393,ee a),(a,dq c cZ g e)] λd=>.ref (d 4)
theorem IW(h:∀i f j,OK u (IU k i f j a v c L)):aI u (λω=>EJ k d a v c L):=
 oU Gd [[],[2,9,10]] [1,0,12,16] (aE [39,43,53,0,49,59]) ⟨jF,λe b g=>h _ _ _,cg⟩ (Y:=λu=>[tY (Pm u),λe b g=>IU k (ad e 0) (eJ b 0) (lk b 0 0) a v c L]) (Z:=g4 [70])
section
open PySem.Calls PySem.SeqAt
section
variable {P:WJ} {w:WG} {K:Nat->WA gi}
theorem EK{c:Wy (Nat×gi)}{b:Heap}{d:Nat}{a:SL}(s:d7 K (kJ c) Z I)(m:AllBare I.gens)(i:∀h e,I.heap.get? h=some e->b.get? h=some e):eh (kJ c) Z y a I {I with heap:=b,toks:=d}:=by
 refine⟨⟨λh e f ω=>.inl (i h e f),λh e f=>⟨e,i h e f,.refl e⟩,rfl,λt w f ω=>f⟩,by simp[kJ,pl],λg k=> ?_,rfl,λg k=>by simp[kJ]at k,λn j=>by simp[kJ]at j,by simp[kJ,addrs],λn j=>by simp[kJ]at j,by simp[kJ,eg],λB r=>by simp[kJ]at r,m⟩
 obtain⟨p,q,v⟩:=yE k;have:=(s.pre g.1 p).1;have o:(⟨g.1.addr,g.2,g.1.fr⟩:aF)=g.1:=by rw[q]
 rw[o];unfold aK at this|-;cases l:g.1.fr with
 |false=>rw[l]at this;exact i _ _ this
 |true=>rw[l]at this;obtain⟨a,f⟩:=this;exact⟨a,i _ _ f⟩
theorem IX{l:Nat}{xs:WD (Int×Tok)}{ep:Nat}(h:∀a,a<xs.size->0<=numAt xs a/\numAt xs a<1000)(O:xs.size<=1000000):ct P w K (fh "sum" [.ref l] [(l,cm (intItems xs) ep)] λm=>.int (preSum (numAt xs) xs.size) (m 0)):=by
 intro A R d D J I n i q;have x:=el i (l,cm (intItems xs) ep) (.head _);have v:d.heap.IsList l (intItems xs):=⟨_,x,rfl,ep,rfl⟩;have s:A.handled=none:=D.hd;have z:∀a,a<=xs.size->0<=preSum (numAt xs) a/\preSum (numAt xs) a<=1000*(a:Nat):=λa=>by
  induction a with
  |zero=>intro _;exact⟨Int.le_refl _,Int.le_refl _⟩
  |succ a C=>
   intro f;obtain⟨Q,Y⟩:=C (by lia);obtain⟨o,p⟩:=h a (by lia);simp only[preSum];lia
 refine dY F.plain_sum F.entry_sum ?_;unfold Builtin.«sum»;simp only[List.length_cons,List.length_nil];rw[if_neg (by decide)];refine ci (wpAny_of_eq (show Builtin.Builtins.bindParams "sum" ["start"] 0 {}=pure [none]from rfl) ?_);refine ci (iter_intList v λV b G r y=> ?_)
 subst b;refine ci (wpAny_mkInt ?_);refine ci (cj ?_);simp only[List.forIn_cons,List.forIn_nil];refine ci (ci (ci (wpAny_isInstance (T:= "int") (b:=false) (typeIs_int _ _ _) PySem.sub_int_str ?_)));simp only[Bool.false_eq_true,if_false];refine cj (ci (ci (wpAny_isInstance (T:= "int") (b:=false) (typeIs_int _ _ _) PySem.sub_int_bytes ?_)));simp only[Bool.false_eq_true,if_false];refine cj (ci (ci (wpAny_isInstance (T:= "int") (b:=false) (typeIs_int _ _ _) PySem.sub_int_bytearray ?_)));simp only[Bool.false_eq_true,if_false];refine cj (cj ?_);refine ci (wpAny_newObj_type ?_);have W:=Walks.list (prog:=P) (w:=w) (A:=A.in1) s d.heap.objs.size l y (intItems xs);have j:(intItems xs).size=xs.size:=by simp[intItems]
 refine cj ⟨plainId_quiet F.plain_sum_loop _,codeAny_sum_loop W (numAt xs) (λω ω=>intItems_at) (λa f=> ?_) _ (λc=>Nat.lt_irrefl _ (r _ c)) _ 0 _ _ 0 rfl (Nat.zero_le _)
  (W.frame _ _ _ G λe ω k b=>Heap.get?_push_of_some _ b) (Heap.get?_push_size _ rfl) λN tk H t=> ?_⟩
 ·rw[j]at f;obtain⟨o,p⟩:=h a f;obtain⟨L,M⟩:=z (a+1) (by lia);unfold InLong;lia
 ·rw[j];refine q (λω=>H) (λω=> #[]) _ (EK i n λe k b=> ?_)
  have g:=Heap.lt_size b;refine t e k (λc=> ?_) ?_ (Heap.get?_push_of_some _ (Heap.get?_push_of_some _ b))
  ·rcases t6 c with e1|c
   ·subst e1;exact Nat.lt_irrefl _ g
   ·cases c
  ·intro e1;have:(d.heap.push {cls:=Value.type "list_iterator",data:=Data.fields #[Value.ref l,Value.int 0 0]}).objs.size=d.heap.objs.size+1:=Heap.size_push ..;have e2:e=d.heap.objs.size+1:=e1.trans this;exact Nat.lt_irrefl _ (Nat.lt_of_succ_lt (e2▸g))
theorem qq:entryFor table "list.__eq__" =some Builtin.«list.__eq__»:=entryFor_of_tree (by kernel_rfl)
theorem qr:entryFor table "list.__ne__" =some Builtin.«list.__ne__»:=entryFor_of_tree (by kernel_rfl)
theorem uP:∀(b:Wy cl) (F:AL) (a:Nat) (c:a<(d3 b F).length),(d3 b F)[a]= .bytes (b.getD a #[]) (F a)
 |[],F,a,c=>by simp[d3]at c
 |d::b,F,0,c=>rfl
 |d::b,F,a+1,c=>by
  have:=uP b (cy F) a (by simpa[d3]using c);simpa[d3,cy]using this
noncomputable def hn(b a:Nat)(c d:ug)(e f:Nat):Spec:=FP "list.__add__" [.ref b,.ref a] [(b,cm c e),(a,cm d f)] (cm (c++d) 0)
theorem nP:entryFor table "list.__add__" =some Builtin.«list.__add__»:=entryFor_of_tree (by kernel_rfl)
theorem mL{a:ug}(o:H.size+a.size<=1000000):ct P w K (hn f c H a d e):=by intro h R g p n m i b j;have l:=el (pre:=[(f,cm H d),(c,cm a e)]) ⟨b.pre,b.nd,b.UR,b.U6,b.UX⟩ (f,cm H d) (.head _);have k:=el (pre:=[(f,cm H d),(c,cm a e)]) ⟨b.pre,b.nd,b.UR,b.U6,b.UX⟩ (c,cm a e) (.tail _ (.head _));refine dY (by decide+kernel) nP ?_;refine list_addW f c H a d e none none #[] #[] (by have:(1000000:Nat)<=sizeLine:=(by decide);lia) P w h R g ⟨l,k, ?_⟩;exact j (λω=>g.heap.objs.size) (λω=> #[]) _ (m1 (K:=K) (pre:=[(f,cm H d),(c,cm a e)]) ⟨b.pre,b.nd,b.UR,b.U6,b.UX⟩ i rfl ⟨g.toks,rfl⟩)
end
end
section
open PySem.Calls
noncomputable def O7(b a:Nat)(e f:ug)(c d:Nat):Spec:=FP "list.__getitem__" [.ref b,.ref a] [(b,cm e c),(a,gB .none (.int 60 d))] (cm f 0)
theorem IY{c:WJ}{h:WG}{b:Nat->WA gi}{a:ug}(j:H.extract 0 (min 60 H.size)=a)(i:H.size<=1000000):ct c h b (O7 f d H a e g):=
 I3 (lo:=none) (hi:=some 60) (t:=0) j i
end
section
noncomputable def EL:PySem.Expr:=tH [60,0] [2,0,1]
noncomputable def EM(c b d a:Nat):Code:= .compLoop EL 0 (.ref c) (.ref b) (yV EL (lq "_law_state.<locals>.") 922 d a)
noncomputable def nQ:Wy Int->AL->ui
 |[],_=>[]
 |x::a,F=>.int ((iU x).fmod 997) (F 0)::nQ a (cy F)
noncomputable def wd:Wy (Int×Nat)->ui
 |[]=>[]
 |a::b=>.int a.1 a.2::wd b
noncomputable def pg(c:WA Wz):Wy (Int×Nat)->WA Wz
 |[]=>c
 |a::b=>pg (some (.int a.1 a.2)) b
noncomputable def lN(a:WC)(b:WA Wz)(c:Nat):gi:=match b with
 |none=>fk [] 0
 |some d=>fk [dx a "number" c d] 1
noncomputable def nR(c:WC)(a b d i h f g:Nat)(l e:ug)(j:WA Wz)(k:Nat):Wy (Nat×gi):=[(a,dp b a h),(b,cm l f),(d,cm e g),(i,lN c j k)]
noncomputable def Bk(d:WC)(h n e i c m g l:Nat)(b f:ug)(j:Wy (Int×Nat))(k:WA Wz)(o:Nat):Spec:=
 ⟨EM h e i c,40,some c,⟨pl (nR d h n e i m g l b f k o),[],λa ω=>[dL "list_iterator" [.none,.int b.size 0],cm b g,cm (f++(⟨nQ (j.map (·.1)) (cn 2 a)⟩:ug)) (a 1),lN d (pg k j) (a 0)],nn,nn,nn,[],nn⟩,λω ω=>.ok .next⟩
noncomputable def O8(e:WC)(i n f j d m h l:Nat)(c g:ug)(b:Int×Nat)(k:Wy (Int×Nat))(o:WA Wz)(p:Nat):Spec:=
 ⟨EM i f j d,40,some d,⟨pl (nR e i n f j m h l c g o p),[],λa ω=>[dL "list_iterator" [.none,.int c.size 0],cm c h,cm (g.push (.int ((iU b.1).fmod 997) (a 0))++(⟨nQ (k.map (·.1)) (cn 2 (cn 1 a))⟩:ug)) (a 2),lN e (pg (some (.int b.1 b.2)) k) (a 1)],nn,nn,nn,[],nn⟩,λω ω=>.ok .next⟩
noncomputable def O9(j:WC)(f g k n i e d:Nat)(h c:ug)(a:Int×Nat)(o:Wy (Int×Nat)):Wy U:=[λl b m=>xf f g e h d (.int a.1 a.2),MY a.1,Cz (iU a.1) 997,CJ c,λl b m=>Bk j f g k n i (e+1) d (eJ b 2) h (c.push (.int ((iU a.1).fmod 997) (df (l8 b 4 1)))) o (some (.int a.1 a.2)) (dN (b[3]?.getD default) 0)]
noncomputable def Pa(l:WG)(c h e i d b g:Nat)(a f:ug)(j:WA Wz)(k:Nat):JR:=
 (⟨EM c e i d,40,some d,⟨pl (nR l.params c h e i a.size b g a f j k),[],λm ω=>[dL "list_iterator" [.none,.int a.size 0],cm a b,cm f g,lN l.params j k],nn,nn,nn,[],nn⟩,λω ω=>.ok .next⟩,[λn p o=>jM c h a.size a b],[])
noncomputable def TE:Nat:=0x131011244004011102f201322
theorem uQ{it l acc loc L ep Vc:Nat}{b:ug}{a:Int×Nat}{rs:Wy (Int×Nat)}{st:WA Wz}{t:Nat}(k:H[c]?=some (.int a.1 a.2))(j:b.size<=1000000)
 (m:∀i n o,OK u (Bk (Pm u) it l acc loc L (c+1) ep i H (b.push (.int ((iU a.1).fmod 997) o)) rs (some (.int a.1 a.2)) n)):aI u (λu=>O8 (Pm u) it l acc loc L c ep Vc H b a rs st t):=by
 have h:aw u (λu=>O9 (Pm u) it l acc loc L c ep H b a rs):=⟨λd f e=>iy k,λd f e=>yG,λd f e=>pH (by decide),λd f e=>lC j,λd f e=>m _ _ _,cg⟩
 cases st with
 |none=>exact oU TE [[0,1],[],[],[2],[0,1,2,3]] [3,2,1,0] (dT [9] λg=>dI (odd (odd (cn 1 (odd (cn 1 (odd g))))))) h
 |some p=>exact oU TE [[0,1],[],[],[2],[0,1,2,3]] [3,2,1,0] (dT [9] λg=>dI (odd (odd (cn 1 (odd (cn 1 (odd g))))))) h
theorem we{u:WB}{it l acc loc L ep:Nat}{H:ug}:∀(d:Wy (Int×Nat)) (a c:Nat) (b:ug) (g:WA Wz) (e:Nat),H.toList.drop a=wd d->a<=H.size->b.size+d.length<=1000000->
  OK u (Bk (Pm u) it l acc loc L a ep c H b d g e)
 |[],a,c,b,g,e,i,s,n=>by
  have t:a=H.size:=by
   have:=congrArg List.length i;simp[wd]at this;lia
  subst t;have j:aI u (λu=>(Pa (W2 u) it l acc loc L ep c H b g e).1):=by
   exact oU 0x13101121 [[0,1]] [3,2,1,0] (aE []) ⟨λp w r=>fP (by simp),cg⟩ (Y:=λω=>[λp w r=>jM it l H.size H ep])
  refine j.alt rfl rfl rfl rfl rfl rfl λf m=>⟨cons e λω=>c,m,rfl, ?_,rfl,rfl,rfl,rfl⟩
  refine(?_:[_,_,_,_]=[_,_,_,_]);rw[show(b++(⟨nQ (([]:Wy (Int×Nat)).map (·.1)) (cn 2 (cons e λω=>c))⟩:ug))=b by simp[nQ]]
  rfl
 |o::d,a,c,b,g,e,i,s,n=>by
  have y:b.size+d.length+1<=1000000:=by simpa[Nat.add_assoc]using n
  have k:H[a]?=some (.int o.1 o.2):=by
   have:=congrArg (·[0]?) i;simpa[List.getElem?_drop,wd]using this
  have v:a<H.size:=by
   rcases Nat.lt_or_ge a H.size with h|h
   ·exact h
   ·rw[Array.getElem?_eq_none h]at k;cases k
  have j:=uQ (u:=u) (it:=it) (l:=l) (acc:=acc) (loc:=loc) (L:=L) (ep:=ep) (Vc:=c) (rs:=d) (st:=g) (t:=e) k (show b.size<=1000000 by lia) λq x z=>we d (a+1) q _ _ x (by
   have:=congrArg (List.drop 1) i;simpa[List.drop_drop,wd]using this) v (by rw[Array.size_push];lia)
  refine j.alt rfl rfl rfl rfl rfl rfl λf m=>⟨cons (f 1) (cons (f 2) (cons (f 0) (cn 3 f))),m,rfl, ?_,rfl,rfl,rfl,rfl⟩
  refine(?_:[_,_,_,_]=[_,_,_,_]);refine cY rfl (cY rfl (cY ?_ (cY rfl rfl)));refine(?_:cm _ _=cm _ _);rw[gu];rfl
noncomputable def sq(b:Int×Nat):Wy (Int×Nat)->Int×Nat
 |[]=>b
 |q::a=>sq q a
theorem nS:∀(b:Wy (Int×Nat)) (a:Int×Nat),pg (some (.int a.1 a.2)) b=some (.int (sq a b).1 (sq a b).2)
 |[],a=>rfl
 |q::b,a=>nS b q
noncomputable def uR(c:WC)(d:Wy (Int×Nat))(e:Nat):gi:=match d with
 |[]=>fk [] 0
 |b::a=>fk [dx c "number" e (.int (sq b a).1 (sq b a).2)] 1
theorem xQ(a:WC)(b:Wy (Int×Nat))(c:Nat):lN a (pg none b) c=uR a b c:=by
 cases b with
 |nil=>rfl
 |cons d e=>
  refine(?_:lN a (pg (some (.int d.1 d.2)) e) c=_);rw[nS];rfl
noncomputable def Gy(d:WC)(g k e h c f j:Nat)(b:ug)(i:Wy (Int×Nat)):Spec:=
 ⟨.compStart EL 0 (.ref g) (.ref e) (yV EL (lq "_law_state.<locals>.") 922 h c),44,some c,⟨pl (nR d g k e h 0 f j b #[] none 0),[],λa ω=>[dL "list_iterator" [.none,.int b.size 0],cm b f,cm ⟨nQ (i.map (·.1)) (cn 2 a)⟩ (a 1),uR d i (a 0)],nn,nn,nn,[],nn⟩,λω ω=>.ok .next⟩
noncomputable def Bl(d:WC)(g k e h c f j:Nat)(b:ug)(i:Wy (Int×Nat)):Spec:=
 ⟨EM g e h c,40,some c,⟨pl (nR d g k e h 0 f j b #[] none 0),[],λa ω=>[dL "list_iterator" [.none,.int b.size 0],cm b f,cm ⟨nQ (i.map (·.1)) (cn 2 a)⟩ (a 1),uR d i (a 0)],nn,nn,nn,[],nn⟩,λω ω=>.ok .next⟩
variable {a:Wy (Int×Nat)} {b:Nat}
theorem wg(k:H.toList=wd a)(j:a.length<=1000000):OK u (Bl (Pm u) g b e h d c f H a):=by
 refine(we (u:=u) (it:=g) (l:=b) (acc:=e) (loc:=h) (L:=d) (ep:=c) a 0 f #[] none 0 (by rw[List.drop_zero];exact k) (Nat.zero_le _) (by simpa using j)).alt rfl rfl rfl rfl rfl rfl λi l=>⟨i,l,rfl, ?_,rfl,rfl,rfl,rfl⟩
 refine(?_:[_,_,_,_]=[_,_,_,_]);rw[Array.empty_append,xQ]
theorem Bm(n:H.toList=wd a)(m:a.length<=1000000):aI u (λu=>Gy (Pm u) g b e h d c f H a):=by
 obtain⟨o,b1,b2⟩:=u;cases b2 with
 |true=>exact oT 0x112 [[0,1,2,3]] [3,2,1,0] (dT [] λi=>dI i) ⟨λj l k=>wg n m,cg⟩ (Y:=λu=>[λj l k=>Bl (Pm u) g b e h d c f H a])
 |false=>exact oT 0x1111011112 [[0,1,2,3]] [3,2,1,0] (dT [] λi=>dI i) ⟨λj l k=>wg n m,cg⟩ (Y:=λu=>[λj l k=>Bl (Pm u) g b e h d c f H a])
noncomputable def jr:Wy Int->AL->Wy (Int×Tok)
 |[],_=>[]
 |x::a,F=>((iU x).fmod 997,F 0)::jr a (cy F)
noncomputable def nT:Wy Int->Int
 |[]=>0
 |x::a=>(iU x).fmod 997+nT a
theorem nU:∀(a:Wy Int) (F:AL),(⟨nQ a F⟩:ug)=intItems ⟨jr a F⟩
 |[],F=>by simp[nQ,jr,intItems]
 |x::a,F=>by
  have:=congrArg Array.toList (nU a (cy F));apply Array.ext';simp only[intItems,nQ,jr]at this|-;simp at this|-;exact this
theorem mf:∀(b:Wy Int) (F:AL) (a:Nat),0<=numAt ⟨jr b F⟩ a/\numAt ⟨jr b F⟩ a<1000
 |[],F,a=>by simp[numAt,jr]
 |x::b,F,0=>by
  have c:=Int.emod_nonneg (iU x) (show(997:Int)≠0 by decide);have d:=Int.emod_lt_of_pos (iU x) (show(0:Int)<997 by decide);simp only[numAt,jr];simp;rw[Int.fmod_eq_emod_of_nonneg _ (by decide)];lia
 |x::b,F,a+1=>by
  have:=mf b (cy F) a;simpa[numAt,jr]using this
noncomputable def sumZ(a:Wy Int)(b:AL):Int:=preSum (numAt ⟨jr a b⟩) a.length
theorem nV:∀(a:Wy Int) (F:AL),(jr a F).length=a.length
 |[],_=>rfl
 |_::a,F=>congrArg (· +1) (nV a (cy F))
theorem k8(a:Nat->Int):∀n,preSum a (n+1)=a 0+preSum (λb=>a (b+1)) n
 |0=>by simp[preSum]
 |n+1=>by
  rw[preSum,k8 a n,preSum,Int.add_assoc]
theorem my:∀(a:Wy Int) (F:AL),sumZ a F=nT a
 |[],F=>rfl
 |x::a,F=>by
  have b:=my a (cy F);unfold sumZ at b|-;rw[List.length_cons,k8];refine(?_:_+_=(iU x).fmod 997+nT a);rw[<-b];congr 1;have:(λc=>numAt ⟨jr (x::a) F⟩ (c+1))=numAt ⟨jr a (cy F)⟩:=by
   funext c;simp[numAt,jr]
  rw[this]
noncomputable def Pb(b:Wy Int)(d:Wy AL->AL):U:=λa f e=>fh "sum" [.ref (ad a 0)] [(ad a 0,cm ⟨nQ b (d e)⟩ (eJ f 0))] λc=>.int (nT b) (c 0)
theorem EN{b:Wy Int}{a:Wy AL->AL}(h:b.length<=1000000):∀d e c,OK u (Pb b a d e c):=λd e c=>by
 have f:=IX (P:=PW) (w:=W2 u) (K:=KB (W2 u)) (l:=ad d 0) (xs:=⟨jr b (a c)⟩) (ep:=eJ e 0) (λi ω=>mf b (a c) i) (by refine(?_:(jr b _).length<=_);rw[nV];exact h)
 rw[<-nU]at f;refine ct.alt f rfl rfl rfl rfl rfl rfl λg j=>⟨g,j, ?_,rfl,rfl,rfl,rfl,rfl⟩
 refine(?_:Except.ok (Flow.ret (.int (preSum _ (jr b (a c)).length) _))=_);rw[nV];have:=my b (a c);unfold sumZ at this;rw[this];rfl
noncomputable def Pc(c b:Nat)(d f:ug)(e:Int):Spec:=
 ⟨ul 923 [.ref c],70,none,UM [(c,cm d b)] (λω=>[cm d b]) (λa=>[(a 0,hM (a 1) 0 e (a 2) (a 3) 0),(a 1,cm f 0)]),λa ω=>uj (.ref (a 0))⟩
theorem IZ{d:ug}(k:H.toList=wd a)(h:a.length<=1000000)(i:H.size<=1000000)(l:H.extract 0 (min 60 H.size)=d):aI u (λω=>Pc b c H d ((nT (a.map (·.1))).fmod 997)):=by
 have j:aw u (λu=>[λe f g=>O7 b (ad e 1) H d (eJ f 0) (df (ky f 1 1)),λe f g=>Gy (Pm u) (jf e) b (hC e) (hD e) (l9 e) c (eJ f 2) H a,Pb (a.map (·.1)) (λg=>cn 2 (cH g 0)),Cz (nT (a.map (·.1))) 997]):=⟨λe f g=>IY l i,λe f g=>Bm k h,EN (by simpa using h),λe f g=>pH (by decide),cg⟩
 clear k h i l;cases a with
 |nil=>exact oT 0x1000111001033301320034401410100110120120 [[2,0],[2,6,1,0],[1],[]] [0,7,3] (aE [35,4,5,27]) j
 |cons m a=>exact oT 0x1011af00103330132003440141010011110120120 [[2,0],[2,6,1,0],[1],[]] [0,7,3] (aE [35,4,5,27]) j
end
section
noncomputable def Um(b:PySem.Expr):Scope:={Qp b with names:=(Qp b).names.map λa=>match a.2 with
 | .free=>(a.1,.cell)
 |_=>a}
noncomputable def su(d:PySem.Expr)(c e a:Nat)(b:Wy (Str×Addr)):Env:=⟨Um d,e,3,b,lq "law.<locals>.",none,.ref c,some a,0⟩
noncomputable def ph:PySem.Expr:=tH [68,2] []
noncomputable abbrev KK:=Fin 16×Fin 16
noncomputable def dw(a:KK):cl:=eF a.1 a.2
noncomputable def ib(a:Int):Nat->Int
 |0=>a
 |n+1=>ib (a+1+1) n
noncomputable def Pd(a:Wy KK)(b c:Nat):Nat:=match a with
 |[]=>b
 |_=>c
noncomputable def mM(a:WC)(n:Nat)(b c:Nat):gi:=match n with
 |0=>fk [] 0
 |n+1=>fk [dx a "turn" b (.int (n:Nat) c)] 1
structure SS where
 (cs st sc:Nat)
 fb:Int
 (t2 ep:Nat)
 vs:ug
 Vc:Nat
noncomputable def SS.oo(a:SS)(b:Int)(c:Nat):gi:=hM a.sc b a.fb c a.t2 a.ep
noncomputable def lO(h:WC)(c b d e:Nat)(a:SS)(f:Int)(g:Nat):Wy (Nat×gi):=[(c,fS 0 e 1),(b,cm #[] 0),(d,fk [] 0),(a.cs,dP (.ref a.st)),(a.st,a.oo f g),(a.sc,cm a.vs a.Vc)]
noncomputable def wi(d:WC)(a:Wy KK)(c:SS)(e:Int)(f:Nat)(b:AL):uk:=[fS a.length 0 1,cp (a.map dw) (cn 3 b) a.length,mM d a.length (b 0) (b 1),dP (.ref c.st),c.oo (ib e a.length) (Pd a f (b 2)),cm c.vs c.Vc]
noncomputable def Bn(c:WC)(e d g b:Nat)(f:Wy KK)(a:SS)(h:Int)(i:Nat):Spec:=
 ⟨.compLoop ph 0 (.ref e) (.ref d) (su ph 974 g b [(lq "state",a.cs)]),110,some b,⟨pl (lO c e d g f.length a h i),[],λj ω=>wi c f a h i j,nn,nn,nn,[],nn⟩,λω ω=>.ok .next⟩
noncomputable def Pe(c:WC)(e d g b:Nat)(f:Wy KK)(a:SS)(h:Int)(i:Nat):Spec:=
 ⟨.compStart ph 0 (.ref e) (.ref d) (su ph 974 g b [(lq "state",a.cs)]),114,some b,⟨pl (lO c e d g f.length a h i),[],λj ω=>wi c f a h i j,nn,nn,nn,[],nn⟩,λω ω=>.ok .next⟩
noncomputable def nW(a:SS)(d:Int)(b:KK)(g:Nat):U:=λe c f=>vn a.st a.sc d a.fb b.1 b.2 (lk c 0 1) a.t2 a.ep a.vs a.Vc
noncomputable def qs(a:SS):Int->Wy KK->Prop
 |_,[]=>True
 |b,c::d=>dD a.vs b a.fb 16=(c.1.val:Nat)/\dD a.vs (b+1) a.fb 16=(c.2.val:Nat)/\qs a (b+1+1) d
structure nX(x:SS):Prop where
 sz:x.vs.size<=2^24
 iv:hB x.vs
variable {a:SS}
theorem ic{b:KK}(f:nX a)(h:0<=q)(i:dD a.vs q a.fb 16=(b.1.val:Nat))(j:dD a.vs (q+1) a.fb 16=(b.2.val:Nat)):∀d g e,OK u (nW a q b c d g e):=λd g e=>na h f.sz f.iv i j
variable {b:Wy KK}
theorem wj(h:nX a)(n:0<=q)(t:qs a q b)(o:b.length<=3):aI u (λu=>Bn (Pm u) f e g d b a q c):=by
 match b,t,o with
 |[],_,_=>exact oU q8 [] [5,4,3,2,1,0] (aE []) trivial (Y:=λω=>[])
 |[k],⟨i,j,_⟩,_=>exact oU 0x1519f11113304010121222310100f1001 [[4,5]] [5,4,3,2,1,0] (aE [1,0,4,2]) ⟨ic h n i j,cg⟩ (Y:=λω=>[nW a q k c])
 |[k,p],⟨i,j,l,m,_⟩,_=>exact oU 0x1f19fc19f11113304010121222310100f1001 [[4,5],[4,5]] [5,4,3,2,1,0] (aE [1,3,11,2,7]) ⟨ic h n i j,ic h (by lia) l m,cg⟩ (Y:=λω=>[nW a q k c,nW a (q+1+1) p c])
 |[k,p,v],⟨i,j,l,m,r,s,_⟩,_=>exact oU 0x1f19ff19ff19f300f13304010121222310100f1001 [[4,5],[4,5],[4,5]] [5,4,3,2,1,0] (aE [1,9,25,2,7,17]) ⟨ic h n i j,ic h (by lia) l m,ic h (by lia) r s,cg⟩ (Y:=λω=>[nW a q k c,nW a (q+1+1) p c,nW a (q+1+1+1+1) v c])
 |_::_::_::_::_,_,o=>exact absurd o (by simp)
theorem EO{it acc loc L:Nat}{t1:Nat}(g:nX a)(h:0<=q)(i:qs a q b)(j:b.length<=3):aI u (λu=>Pe (Pm u) it acc loc L b a q t1):=by
 obtain⟨k,b1,b2⟩:=u;cases b2 with
 |true=>exact oT 0x112 [[0,1,2,3,4,5]] [5,4,3,2,1,0] (dT [] λc=>dI c) ⟨λd f e=>wj g h i j,cg⟩ (Y:=λu=>[λd f e=>Bn (Pm u) it acc loc L b a q t1])
 |false=>exact oT 0x1111011112 [[0,1,2,3,4,5]] [5,4,3,2,1,0] (dT [] λc=>dI c) ⟨λd f e=>wj g h i j,cg⟩ (Y:=λu=>[λd f e=>Bn (Pm u) it acc loc L b a q t1])
end
section
noncomputable def xR:PySem.Expr:=tH [68,6] []
noncomputable abbrev MM:=Fin 2×Fin 5
noncomputable def Bo:Wy cl:=[az .tag,az .rename]
noncomputable def Bp:Wy cl:=[#[111,110,101],#[],#[116,119,111,10,114,111,119,115],#[97,10,10,98],#[101,110,100,10]]
noncomputable def ho(a:MM):dh:=(Bo.getD a.1.val #[],Bp.getD a.2.val #[])
noncomputable def Pf(a:Wy MM)(b c:Nat):Nat:=match a with
 |[]=>b
 |_=>c
noncomputable def wk(d:WC)(a:Wy MM)(c:SS)(e:Int)(f:Nat)(b:AL):uk:=[fS a.length 0 1,cm (ei a.length (b 3) (b 4)) a.length,mM d a.length (b 0) (b 1),dP (.ref c.st),c.oo (ib e a.length) (Pf a f (b 2)),cm c.vs c.Vc]
noncomputable def Bq(e:WC)(g f h d:Nat)(b:Wy MM)(c:SS)(i:Int)(j:Nat):Spec:=
 ⟨.compLoop xR 0 (.ref g) (.ref f) (su xR 974 h d [(lq "state",c.cs)]),60,some d,⟨pl (lO e g f h b.length c i j),[],λa ω=>wk e b c i j a,nn,nn,nn,[],λa ω=>[⟨ei b.length (a 3) (a 4),b.map ho⟩]⟩,λω ω=>.ok .next⟩
noncomputable def Pg(e:WC)(g f h d:Nat)(b:Wy MM)(c:SS)(i:Int)(j:Nat):Spec:=
 ⟨.compStart xR 0 (.ref g) (.ref f) (su xR 974 h d [(lq "state",c.cs)]),64,some d,⟨pl (lO e g f h b.length c i j),[],λa ω=>wk e b c i j a,nn,nn,nn,[],λa ω=>[⟨ei b.length (a 3) (a 4),b.map ho⟩]⟩,λω ω=>.ok .next⟩
noncomputable def mv(a:SS)(e c:Int)(f:Nat):U:=λb d g=>jd a.st a.sc (tk b 1) e a.fb c (f:Nat) (lk d 0 1) a.t2 a.ep a.vs a.Vc
noncomputable def I0(c:SS)(b:Int)(a:MM):Wy U:=[mv c b 2 a.1.val,vp Bo a.1.val,mv c (b+1) 5 a.2.val,vp Bp a.2.val]
noncomputable def sv(a:SS):Int->Wy MM->Prop
 |_,[]=>True
 |b,c::d=>dD a.vs b a.fb 2=(c.1.val:Nat)/\dD a.vs (b+1) a.fb 5=(c.2.val:Nat)/\sv a (b+1+1) d
variable {a:SS}
theorem fY(e:nX a)(g:0<=r)(i:q≠0)(h:dD a.vs r a.fb q=(c:Nat)):∀b f d,OK u (mv a r q c b f d):=λb f d=>kN g e.sz e.iv i h
variable {b:Wy MM}
theorem wm(i:nX a)(n:0<=q)(r:sv a q b)(l:b.length<=2):aI u (λu=>Bq (Pm u) e d f c b a q g):=by
 match b,r,l with
 |[],_,_=>exact oU q8 [] [5,4,3,2,1,0] (aE []) trivial (Y:=λω=>[]) (R:=[.cells []])
 |[h],⟨j,k,_⟩,_=>exact oU 0x1310500f133005916f00001000070111101120100161666350151555001 [[5,6],[0],[7,8],[0]] [5,4,3,2,1,0] (aE [1,0,49,53]) ⟨fY i n (by decide) j,he h.1.isLt (by decide),fY i (by lia) (by decide) k,he h.2.isLt (by decide),cg⟩ (Y:=λω=>(I0 a q h)) (R:=[.cells [2]])
 |[h,m],⟨j,k,o,p,_⟩,_=>exact oU 0x1310500f133005f3bf0007a3bf61666350151200f577009916f000010000b01111011201001a1aaa390191999001 [[5,6],[0],[7,8],[0],[9,10],[0],[11,12],[0]] [5,4,3,2,1,0] (aE [1,69,853,53,917]) ⟨fY i n (by decide) j,he h.1.isLt (by decide),fY i (by lia) (by decide) k,he h.2.isLt (by decide),fY i (by lia) (by decide) o,he m.1.isLt (by decide),fY i (by lia) (by decide) p,he m.2.isLt (by decide),cg⟩ (Y:=λω=>(I0 a q h++I0 a (q+1+1) m)) (R:=[.cells [6,2]])
 |_::_::_::_,_,l=>exact absurd l (by simp)
theorem EP{it acc loc L:Nat}{t1:Nat}(f:nX a)(g:0<=q)(h:sv a q b)(i:b.length<=2):aI u (λu=>Pg (Pm u) it acc loc L b a q t1):=by
 obtain⟨j,b1,b2⟩:=u;cases b2 with
 |true=>exact oT 0x112 [[0,1,2,3,4,5]] [5,4,3,2,1,0] (aE [0,2,4,6,8]) ⟨λc e d=>wm f g h i,cg⟩ (Y:=λu=>[λc e d=>Bq (Pm u) it acc loc L b a q t1]) (R:=[.UO 0])
 |false=>exact oT 0x1111011112 [[0,1,2,3,4,5]] [5,4,3,2,1,0] (aE [0,2,4,6,8]) ⟨λc e d=>wm f g h i,cg⟩ (Y:=λu=>[λc e d=>Bq (Pm u) it acc loc L b a q t1]) (R:=[.UO 0])
noncomputable def QM:PySem.Expr:=tH [68,9] [0,1]
noncomputable def Br(d a b c:Nat):ug:=match d with
 |0=> #[]
 |1=> #[.ref a]
 |2=> #[.ref a,.ref b]
 |_=> #[.ref a,.ref b,.ref c]
noncomputable def xS(c:WC)(e:Wy cl)(b:AL)(f:Nat):gi:=match e with
 |[]=>fk [] 0
 |d::a=>fk [dx c "parent" f (.bytes (nw d a) (b a.length))] 1
noncomputable def Gz(h:WC)(a d f b e:Nat)(g:Wy cl)(c:AL):Wy (Nat×gi):=[(a,dp b a 0),(b,cp g c e),(d,cm #[] 0),(f,fk [] 0)]
noncomputable def Bs(d:WC)(f e:Nat)(a:Wy cl)(c:AL)(b:AL):uk:=[dL "list_iterator" [.none,.int a.length 0],cp a c e,cm (Br a.length (b 1) (b 2) (b 3)) a.length,xS d a c (b 0)]
noncomputable def I1(e:WC)(h f i d j g:Nat)(b:Wy cl)(c:AL):Spec:=
 ⟨.compLoop QM 0 (.ref h) (.ref f) (su QM 974 i d []),40,some d,⟨pl (Gz e h f i j g b c),[],λa ω=>Bs e j g b c a,nn,nn,nn,[],λa ω=>[⟨Br b.length (a 1) (a 2) (a 3),jP b⟩]⟩,λω ω=>.ok .next⟩
noncomputable def Ph(e:WC)(h f i d j g:Nat)(b:Wy cl)(c:AL):Spec:=
 ⟨.compStart QM 0 (.ref h) (.ref f) (su QM 974 i d []),44,some d,⟨pl (Gz e h f i j g b c),[],λa ω=>Bs e j g b c a,nn,nn,nn,[],λa ω=>[⟨Br b.length (a 1) (a 2) (a 3),jP b⟩]⟩,λω ω=>.ok .next⟩
theorem Bt{a:Nat}(b:A.length<=3):aI u (λu=>I1 (Pm u) e d f c g a A y):=by
 match A,b with
 |[],_=>exact oU 0x131011111211001 [] [3,2,1,0] (aE []) trivial (Y:=λω=>[]) (R:=[.cells []])
 |[h],_=>exact oU 0x1310111112114440014144432012122322001 [] [3,2,1,0] (aE [0,2]) trivial (Y:=λω=>[]) (R:=[.cells [2]])
 |[h,i],_=>exact oU 0x13101111121144400141444320121223225550015155533013133433001 [] [3,2,1,0] (aE [0,2,5]) trivial (Y:=λω=>[]) (R:=[.cells [3,2]])
 |[h,i,j],_=>exact oU 0x1310111112114440234f43201212232255500151555330131334336660016166634014144544001 [] [3,2,1,0] (aE [0,2,5,8]) trivial (Y:=λω=>[]) (R:=[.cells [4,3,2]])
 |_::_::_::_::_,b=>exact absurd b (by simp)
theorem I2{a:Nat}(j:A.length<=3):aI u (λu=>Ph (Pm u) e d f c g a A y):=by
 obtain⟨k,b1,b2⟩:=u;cases b2 with
 |true=>exact oT 0x112 [[0,1,2,3]] [3,2,1,0] (aE [0,2,4,6]) ⟨λb i h=>Bt j,cg⟩ (Y:=λu=>[λb i h=>I1 (Pm u) e d f c g a A y]) (R:=[.UO 0])
 |false=>exact oT 0x1111011112 [[0,1,2,3]] [3,2,1,0] (aE [0,2,4,6]) ⟨λb i h=>Bt j,cg⟩ (Y:=λu=>[λb i h=>I1 (Pm u) e d f c g a A y]) (R:=[.UO 0])
end
section
open PySem.Calls
end
section
noncomputable def GA(c:ug):U:=λb a d=>hn (ad b 0) (ad b 1) #[.ref (JS a 0 0)] c (eJ a 0) (eJ a 1)
noncomputable def jY(c:ug):U:=λb a d=>hn (ad b 0) (ad b 1) c #[.ref (JS a 1 0)] (eJ a 0) (eJ a 1)
noncomputable def Sf(b:Wz):Nat:=match b with
 | .ref a=>a
 |_=>0
noncomputable def Bv(b a c:Nat)(d e i:ug)(f g h:Nat):Spec:=FP "list.__add__" [.ref b,.ref a] [(b,cm d f),(a,cm e g),(c,cm i h)] (cm (d++e) 0)
noncomputable def jZ(c d:ug):U:=λb a e=>Bv (ad b 0) (ad b 1) (Sf (l8 a 4 1)) (c++ #[.ref (JS a 2 0)]) d #[.ref (JS a 2 0)] (eJ a 0) (eJ a 1) (eJ a 2)
variable {b:ug}
theorem Bw{j:WJ}{k:WG}{g:Nat->WA gi}{i:ug}(w:H.size+b.size<=1000000):ct j k g (Bv f a c H b i d e h):=by intro o R m x v t p l q;have n:d7 g (kJ [(f,cm H d),(a,cm b e),(c,cm i h)]) (aS o) m:=⟨l.pre,l.nd,l.UR,l.U6,l.UX⟩;have s:=el n (f,cm H d) (.head _);have r:=el n (a,cm b e) (.tail _ (.head _));refine dY (by decide+kernel) nP ?_;refine list_addW f a H b d e none none #[] #[] (by have:(1000000:Nat)<=sizeLine:=(by decide);lia) j k o R m ⟨s,r, ?_⟩;exact q (λω=>m.heap.objs.size) (λω=> #[]) _ (m1 (K:=g) (pre:=[(f,cm H d),(a,cm b e),(c,cm i h)]) n p rfl ⟨m.toks,rfl⟩)
theorem Bx(e:b.size<=1000):∀a d c,OK u (GA b a d c):=λa d c=>mL (by refine(?_:1+b.size<=_);lia)
theorem fZ(d:H.size<=1000):∀a c b,OK u (jY H a c b):=λa c b=>mL (by refine(?_:H.size+1<=_);lia)
theorem f0(e:H.size<=1000)(f:b.size<=1000):∀a d c,OK u (jZ H b a d c):=λa d c=>Bw (by rw[Array.size_append];refine(?_:H.size+1+_<=_);lia)
noncomputable def hq(e f:ug)(d c:WA Nat):U:=λb a g=>Pj (ad b 0) (ad b 1) e f d c (eJ a 0) (df (ky a 1 0)) (df (ky a 1 1))
noncomputable def iS(b:Wy cl)(c:AL):U:=λa e f=>fh "len" [.ref (ad a 0)] [(ad a 0,cp b c (eJ e 0))] λd=>.int (b.length:Nat) (d 0)
noncomputable def fp(a:ug)(b:Nat):ug:=a.extract 0 (min b a.size)
noncomputable def e9(a:ug)(b:Nat):ug:=a.extract b (min a.size a.size)
noncomputable def iZ(n:Nat)(i g e f:Nat)(b:ug)(j:Wy dh)(h:Wy cl)(c:AL)(tk:Nat)(d:Nat->ug)(k:Wy dh)(m:Bool)(l:Wy jz):Spec:=
 ⟨ul 963 [.ref i,.ref g,.int (n:Nat) tk],60,none,⟨pl [(i,cm b e),(g,cp h c f)],[],λω ω=>[cm b e,cp h c f],nn,λa ω=>pl [(a 0,eE #[.ref (a 1),.bool m]),(a 1,cm (d (a 2)) 0)],nn,⟨b,j⟩::l,λa ω=>[⟨d (a 2),k⟩]⟩,λa ω=>uj (.ref (a 0))⟩
noncomputable def qI(a:ug)(b c:Nat)(d:Nat):ug:=(fp a b++ #[.ref d])++e9 a c
noncomputable def lm(a:Wy dh)(b c:Nat)(d:dh):Wy dh:=(a.take b++[d])++a.drop c
noncomputable def By(b:ug)(a:Wy dh)(c d f:Nat)(e:cl):Wy jz:=[⟨fp b c,a.take c⟩,⟨e9 b d,a.drop d⟩,⟨#[.ref f],[(az .tree,e)]⟩]
noncomputable def sx:cl:= #[65,32,60,98,62,32,57,50,50,51,51,55,50,48,51,54,56,53,52,55,55,53,56,48,56,32,43,48,48,48,48]
noncomputable def sy:cl:= #[65,32,60,60,98,62,32,53,32,43,48,49,48,48]
theorem eM.take{a b:Type}{c:a->b->Prop}:∀(i:Nat) {e:Wy a} {f:Wy b},eM c e f->eM c (e.take i) (f.take i)
 |0,_,_,_=>by simp[eM]
 |i+1,[],[],_=>trivial
 |i+1,_::_,_::_,d=>⟨d.1,eM.take i d.2⟩
 |i+1,[],_::_,d=>d.elim
 |i+1,_::_,[],d=>d.elim
theorem eM.drop{a b:Type}{c:a->b->Prop}:∀(i:Nat) {e:Wy a} {f:Wy b},eM c e f->eM c (e.drop i) (f.drop i)
 |0,_,_,d=>by simpa using d
 |i+1,[],[],_=>trivial
 |i+1,_::_,_::_,d=>by simpa using eM.drop i d.2
 |i+1,[],_::_,d=>d.elim
 |i+1,_::_,[],d=>d.elim
theorem dV.Wq{a:Heap}{H:ug}{c:Wy dh}(d:dV a ⟨H,c⟩)(b:Nat):dV a ⟨Mine.fp H b,c.take b⟩:=by
 have e:(Mine.fp H b).toList=H.toList.take b:=by
  unfold Mine.fp;simp only[Array.toList_extract,List.extract_eq_take_drop,List.drop_zero,Nat.sub_zero]
  by_cases f:b<=H.size
  ·rw[Nat.min_eq_left f]
  ·rw[Nat.min_eq_right (by lia),List.take_of_length_le (by simp),List.take_of_length_le (by simp;lia)]
 unfold dV;rw[e];exact eM.take b d
theorem dV.VU{a:Heap}{H:ug}{c:Wy dh}(d:dV a ⟨H,c⟩)(b:Nat):dV a ⟨Mine.e9 H b,c.drop b⟩:=by
 have e:(Mine.e9 H b).toList=H.toList.drop b:=by
  unfold Mine.e9;simp only[Array.toList_extract,List.extract_eq_take_drop,Nat.min_self];rw[List.take_of_length_le (by simp)]
 unfold dV;rw[e];exact eM.drop b d
theorem eZ(d:A.length<=1000):∀a b c,OK u (iS A y a b c):=λa b c=>by
 have:=ja (P:=PW) (w:=W2 u) (K:=KB (W2 u)) (l:=ad a 0) (xs:=⟨d3 A y⟩) (ep:=eJ b 0) (by refine(?_:(d3 A y).length<=_);rw[d8];lia);rw[show((⟨d3 A y⟩:ug).size:Int)=(A.length:Nat) by refine(?_:((d3 A y).length:Int)=_);rw[d8]]at this;exact this
theorem wn{c a:WA Nat}(h:H.extract (c.getD 0) (min (a.getD H.size) H.size)=b)(g:H.size<=1000000):∀d f e,OK u (hq H b c a d f e):=λd f e=>I3 h g
theorem gW(d:H.size<=1000000):∀b e c,OK u (hq H (fp H a) none (some a) b e c):=wn rfl d
theorem f3(d:H.size<=1000000):∀b e c,OK u (hq H (e9 H a) (some a) none b e c):=wn rfl d
theorem Pk(a b:UInt8):(Builtin.Bytes.repeated #[a,b] 20).extract 0 39=⟨(List.replicate 19 [a,b]).flatten++[a]⟩:=by apply Array.ext';simp[Builtin.Bytes.repeated,List.replicate]
theorem Sg(b a:UInt8):(Builtin.Bytes.repeated #[b,a] 20).extract 1 40=⟨(List.replicate 19 [a,b]).flatten++[a]⟩:=by apply Array.ext';simp[Builtin.Bytes.repeated,List.replicate]
theorem Sh(b a:UInt8):(Builtin.Bytes.repeated #[b,a] 20).extract 39 40= #[a]:=by apply Array.ext';simp[Builtin.Bytes.repeated,List.replicate]
theorem Si(a b:UInt8):(Builtin.Bytes.repeated #[a,b] 20).size=40:=by simp[Builtin.Bytes.repeated,List.replicate]
theorem I4(a b:Fin 16):(eF a b).extract 0 39=ij a b:=Pk _ _
theorem Pl(a b:Fin 16):(eF a b).extract 1 40=ij b a:=Sg _ _
theorem Pn(b a:Fin 16):(eF b a).extract 39 40= #[dM a]:=Sh _ _
theorem lQ(a b:Fin 16):(eF a b).size=40:=Si _ _
variable {a:Fin 16}
theorem qt:∀b d c,OK u (du (eF T a) (ij T a) none (some 39) b d c):=de (by rw[lQ];exact I4 T a) (by rw[lQ];decide)
theorem I5:∀b d c,OK u (du (eF T a) (ij a T) (some 1) none b d c):=de (by rw[lQ];exact Pl T a) (by rw[lQ];decide)
theorem Bz:∀b d c,OK u (du (eF T a) #[dM a] (some 39) none b d c):=de (by rw[lQ];exact Pn T a) (by rw[lQ];decide)
theorem nY{c:UInt8}:∀b e d,OK u (je (ij T a) #[c] b e d):=eG (by refine(?_:39+1<=_);decide)
theorem iM(d:H[0]?=some (.ref e)):∀a c b,OK u (pI H 0 (.ref e) a c b):=λa c b=>dZ (by decide) (by decide) d
theorem dF{a:Nat}:(fp H a).size=min a H.size:=by unfold fp;rw[Array.size_extract];lia
theorem eK{a:Nat}:(e9 H a).size=H.size-a:=by unfold e9;rw[Array.size_extract];lia
variable {c:Wy dh}
theorem I6{tk:Nat}(a:A.length<=1000)(e:H.size<=1000):aI u (λω=>iZ 0 h g d f H c A y tk (λω=>e9 H 1) (c.drop 1) true [⟨e9 H 1,c.drop 1⟩]):=by
 have b:aw u (λω=>[iS A y,hq H (e9 H 1) (some 1) none]):=⟨eZ a,f3 (by lia),cg⟩
 exact oT 0x10020ff11000010120111110111033301320 [[2],[2,0]] [1,0,5,4] (aE [18,16]) b (R:=[.UO 1])
theorem I7{tk:Nat}{b:Fin 16}(k:A.length<=1000)(o:H.size<=1000)(j:H[0]?=some (.ref e)):aI u (λω=>iZ 1 h g d f H c A y tk (λl=> #[.ref l]++e9 H 1) ([(az .tree,ij b a)]++c.drop 1) true [⟨e9 H 1,c.drop 1⟩,⟨#[.ref e],[(az .tree,eF a b)]⟩]):=by
 have i:aw u (λω=>[iS A y,pI H 0 (.ref e),du (eF a b) (ij b a) (some 1) none,hq H (e9 H 1) (some 1) none,GA (e9 H 1)]):=⟨eZ k,iM j,I5,f3 (by lia),Bx (by rw[eK];lia),cg⟩
 generalize eF a b=m,ij b a=n at i|-;exact oT 0x10020ff1100001012011303f0111222012101f006f3e8e213e8e20100120040666016231301320 [[2],[1],[0],[5,0],[2,0]] [1,0,9,8] (aE [152,136,96]) i (R:=[.app (.cells [5]) (.UO 1)])
variable {T:cl}
theorem I8{tk:Nat}(b:A.length<=1000)(j:H.size<=1000)(a:H[0]?=some (.ref e)):aI u (λω=>iZ 2 h g d f H c A y tk (qI H (1+A.length+1) (1+A.length+1)) (lm c (1+A.length+1) (1+A.length+1) (az .parent,T)) false (By H c (1+A.length+1) (1+A.length+1) e T)):=by
 have i:aw u (λω=>[iS A y,hq H (fp H (1+A.length+1)) none (some (1+A.length+1)),pI H 0 (.ref e),jY (fp H (1+A.length+1)),hq H (e9 H (1+A.length+1)) (some (1+A.length+1)) none,jZ (fp H (1+A.length+1)) (e9 H (1+A.length+1))]):=⟨eZ b,gW (by lia),iM a,fZ (by rw[dF];lia),f3 (by lia),f0 (by rw[dF];lia) (by rw[eK];lia),cg⟩
 exact oT 0x10020ff1100001012011703f0111101103311ff34440142001f006f3e8e313e8e30100313f660110888018231301320 [[2],[2,0],[3],[2,0],[7,0],[2,0,3]] [1,0,11,10] (aE [284,252,164]) i (R:=[.app (.app (.UO 1) (.cells [6])) (.UO 2)])
variable {a0:Nat}
theorem I9{tk:Nat}(a:A.length<=1000)(e:H.size<=1000):aI u (λω=>iZ 3 h g d f H c A y tk (qI H (1+A.length) (1+A.length+1)) (lm c (1+A.length) (1+A.length+1) (az .UK,xv)) false (By H c (1+A.length) (1+A.length+1) a0 T)):=by
 have b:aw u (λω=>[iS A y,hq H (fp H (1+A.length)) none (some (1+A.length)),jY (fp H (1+A.length)),hq H (e9 H (1+A.length+1)) (some (1+A.length+1)) none,jZ (fp H (1+A.length)) (e9 H (1+A.length+1))]):=⟨eZ a,gW (by lia),fZ (by rw[dF];lia),f3 (by lia),f0 (by rw[dF];lia) (by rw[eK];lia),cg⟩
 exact oT 0x10020ff1100001012011b03f0111103321cf0313f660110888018231301320 [[2],[2,0],[2,0],[7,0],[2,0,3]] [1,0,11,10] (aE [90,74,30]) b (R:=[.app (.app (.UO 1) (.cells [6])) (.UO 2)])
theorem Ja{tk:Nat}(a:A.length<=1000)(e:H.size<=1000):aI u (λω=>iZ 4 h g d f H c A y tk (qI H (1+A.length+1) (1+A.length+2)) (lm c (1+A.length+1) (1+A.length+2) (az .UL,sx)) false (By H c (1+A.length+1) (1+A.length+2) a0 T)):=by
 have b:aw u (λω=>[iS A y,hq H (fp H (1+A.length+1)) none (some (1+A.length+1)),jY (fp H (1+A.length+1)),hq H (e9 H (1+A.length+2)) (some (1+A.length+2)) none,jZ (fp H (1+A.length+1)) (e9 H (1+A.length+2))]):=⟨eZ a,gW (by lia),fZ (by rw[dF];lia),f3 (by lia),f0 (by rw[dF];lia) (by rw[eK];lia),cg⟩
 exact oT 0x10020ff1100001012011f03f0111101103321cf0313f660110888018231301320 [[2],[2,0],[2,0],[7,0],[2,0,3]] [1,0,11,10] (aE [96,80,36]) b (R:=[.app (.app (.UO 1) (.cells [6])) (.UO 2)])
theorem Jb{tk:Nat}(a:A.length<=1000)(e:H.size<=1000):aI u (λω=>iZ 5 h g d f H c A y tk (qI H (1+A.length+1) (1+A.length+1)) (lm c (1+A.length+1) (1+A.length+1) (az .encoding,#[120])) false (By H c (1+A.length+1) (1+A.length+1) a0 T)):=by
 have b:aw u (λω=>[iS A y,hq H (fp H (1+A.length+1)) none (some (1+A.length+1)),jY (fp H (1+A.length+1)),hq H (e9 H (1+A.length+1)) (some (1+A.length+1)) none,jZ (fp H (1+A.length+1)) (e9 H (1+A.length+1))]):=⟨eZ a,gW (by lia),fZ (by rw[dF];lia),f3 (by lia),f0 (by rw[dF];lia) (by rw[eK];lia),cg⟩
 exact oT 0x10020ff1100001012119ff03f104f1101103321cf0313f660110888018231301320 [[2],[2,0],[2,0],[7,0],[2,0,3]] [1,0,11,10] (aE [98,82,38]) b (R:=[.app (.app (.UO 1) (.cells [6])) (.UO 2)])
theorem Jc{tk:Nat}{b:Fin 16}(k:A.length<=1000)(n:H.size<=1000)(j:H[0]?=some (.ref e)):aI u (λω=>iZ 6 h g d f H c A y tk (qI H (1) (1)) (lm c (1) (1) (az .parent,ij a b++ #[103])) true (By H c (1) (1) e (eF a b))):=by
 have i:aw u (λω=>[iS A y,hq H (fp H (1)) none (some (1)),pI H 0 (.ref e),du (eF a b) (ij a b) none (some 39),je (ij a b) #[103],jY (fp H (1)),hq H (e9 H (1)) (some (1)) none,jZ (fp H (1)) (e9 H (1))]):=⟨eZ k,gW (by lia),iM j,qt,nY,fZ (by rw[dF];lia),f3 (by lia),f0 (by rw[dF];lia) (by rw[eK];lia),cg⟩
 generalize eF a b=l,ij a b=m at i|-;exact oT 0x10020ff1100001144f1f03f503f111033136f34411ef001f006f3e8e313e8e301001201200414014270999019231301320 [[2],[2,0],[3],[0],[],[3,0],[8,0],[2,0,3]] [1,0,12,11] (aE [642,514,226]) i (R:=[.app (.app (.UO 1) (.cells [6])) (.UO 2)])
theorem Jd{tk:Nat}(a:A.length<=1000)(e:H.size<=1000):aI u (λω=>iZ 7 h g d f H c A y tk (qI H (1+A.length) (1+A.length+1)) (lm c (1+A.length) (1+A.length+1) (az .UK,t7)) true (By H c (1+A.length) (1+A.length+1) a0 T)):=by
 have b:aw u (λω=>[iS A y,hq H (fp H (1+A.length)) none (some (1+A.length)),jY (fp H (1+A.length)),hq H (e9 H (1+A.length+1)) (some (1+A.length+1)) none,jZ (fp H (1+A.length)) (e9 H (1+A.length+1))]):=⟨eZ a,gW (by lia),fZ (by rw[dF];lia),f3 (by lia),f0 (by rw[dF];lia) (by rw[eK];lia),cg⟩
 exact oT 0x10020ff1100001012011f03f803f0111103321cf0313f660110888018231301320 [[2],[2,0],[2,0],[7,0],[2,0,3]] [1,0,11,10] (aE [98,82,38]) b (R:=[.app (.app (.UO 1) (.cells [6])) (.UO 2)])
theorem Je{tk:Nat}(a:A.length<=1000)(e:H.size<=1000):aI u (λω=>iZ 8 h g d f H c A y tk (qI H (1+A.length) (1+A.length+1)) (lm c (1+A.length) (1+A.length+1) (az .UK,sy)) false (By H c (1+A.length) (1+A.length+1) a0 T)):=by
 have b:aw u (λω=>[iS A y,hq H (fp H (1+A.length)) none (some (1+A.length)),jY (fp H (1+A.length)),hq H (e9 H (1+A.length+1)) (some (1+A.length+1)) none,jZ (fp H (1+A.length)) (e9 H (1+A.length+1))]):=⟨eZ a,gW (by lia),fZ (by rw[dF];lia),f3 (by lia),f0 (by rw[dF];lia) (by rw[eK];lia),cg⟩
 exact oT 0x10020ff1100001012011f03fc03f0111103321cf0313f660110888018231301320 [[2],[2,0],[2,0],[7,0],[2,0,3]] [1,0,11,10] (aE [100,84,40]) b (R:=[.app (.app (.UO 1) (.cells [6])) (.UO 2)])
noncomputable def uo:Nat:=0x10020ff1100001168f1f03fc03f01111033155f3444014f1af2455121f001f006f3e8e313e8e3010302f12005150152880aaa01a231301320
theorem ET{tk:Nat}{b:Fin 16}(l:A.length<=1000)(q:H.size<=1000)(i:H[0]?=some (.ref e))(k:((#[dM b]:cl).toList==(#[48]:cl).toList)=true):aI u (λω=>iZ 9 h g d f H c A y tk (qI H (1+A.length) (1+A.length)) (lm c (1+A.length) (1+A.length) (az .tree,ij a b++ #[49])) false (By H c (1+A.length) (1+A.length) e (eF a b))):=by
 have j:aw u (λω=>[iS A y,hq H (fp H (1+A.length)) none (some (1+A.length)),pI H 0 (.ref e),du (eF a b) (ij a b) none (some 39),pI H 0 (.ref e),du (eF a b) #[dM b] (some 39) none,tM #[dM b] #[48] true,je (ij a b) #[49],jY (fp H (1+A.length)),hq H (e9 H (1+A.length)) (some (1+A.length)) none,jZ (fp H (1+A.length)) (e9 H (1+A.length))]):=⟨eZ l,gW (by lia),iM i,qt,iM i,Bz,λo r p=>lB k,nY,fZ (by rw[dF];lia),f3 (by lia),f0 (by rw[dF];lia) (by rw[eK];lia),cg⟩
 generalize eF a b=m,ij a b=n,(#[dM b]:cl)=s at j|-;exact oT uo [[2],[2,0],[3],[0],[4],[0],[],[],[4,0],[9,0],[2,0,3]] [1,0,13,12] (aE [4036,3012,1220]) j (R:=[.app (.app (.UO 1) (.cells [6])) (.UO 2)])
theorem EU{tk:Nat}{b:Fin 16}(l:A.length<=1000)(q:H.size<=1000)(i:H[0]?=some (.ref e))(k:((#[dM b]:cl).toList==(#[48]:cl).toList)=false):aI u (λω=>iZ 9 h g d f H c A y tk (qI H (1+A.length) (1+A.length)) (lm c (1+A.length) (1+A.length) (az .tree,ij a b++ #[48])) false (By H c (1+A.length) (1+A.length) e (eF a b))):=by
 have j:aw u (λω=>[iS A y,hq H (fp H (1+A.length)) none (some (1+A.length)),pI H 0 (.ref e),du (eF a b) (ij a b) none (some 39),pI H 0 (.ref e),du (eF a b) #[dM b] (some 39) none,tM #[dM b] #[48] false,je (ij a b) #[48],jY (fp H (1+A.length)),hq H (e9 H (1+A.length)) (some (1+A.length)) none,jZ (fp H (1+A.length)) (e9 H (1+A.length))]):=⟨eZ l,gW (by lia),iM i,qt,iM i,Bz,λo r p=>lB k,nY,fZ (by rw[dF];lia),f3 (by lia),f0 (by rw[dF];lia) (by rw[eK];lia),cg⟩
 generalize eF a b=m,ij a b=n,(#[dM b]:cl)=s at j|-;exact oT uo [[2],[2,0],[3],[0],[4],[0],[],[],[4,0],[9,0],[2,0,3]] [1,0,13,12] (aE [4036,3012,1220]) j (R:=[.app (.app (.UO 1) (.cells [6])) (.UO 2)])
end
noncomputable def sA(a:Fin 16):UInt8:=if dM a=48 then 49 else 48
noncomputable def Po(d:Fin 10)(b:ug)(a c:Nat):ug:=match d with
 |0=>e9 b 1
 |1=> #[.ref c]++e9 b 1
 |2=>qI b (1+a+1) (1+a+1) c
 |3=>qI b (1+a) (1+a+1) c
 |4=>qI b (1+a+1) (1+a+2) c
 |5=>qI b (1+a+1) (1+a+1) c
 |6=>qI b 1 1 c
 |7=>qI b (1+a) (1+a+1) c
 |8=>qI b (1+a) (1+a+1) c
 |9=>qI b (1+a) (1+a) c
noncomputable def EV(e:Fin 10)(b:Wy dh)(a:Nat)(d c:Fin 16):Wy dh:=match e with
 |0=>b.drop 1
 |1=>[(az .tree,ij c d)]++b.drop 1
 |2=>lm b (1+a+1) (1+a+1) (az .parent,eF d c)
 |3=>lm b (1+a) (1+a+1) (az .UK,xv)
 |4=>lm b (1+a+1) (1+a+2) (az .UL,sx)
 |5=>lm b (1+a+1) (1+a+1) (az .encoding,#[120])
 |6=>lm b 1 1 (az .parent,ij d c++ #[103])
 |7=>lm b (1+a) (1+a+1) (az .UK,t7)
 |8=>lm b (1+a) (1+a+1) (az .UK,sy)
 |9=>lm b (1+a) (1+a) (az .tree,ij d c++ #[sA c])
noncomputable def BA(a:Fin 10):Bool:=match a with
 |0=>true
 |1=>true
 |6=>true
 |7=>true
 |_=>false
theorem iN{b:Heap}(e:dV b ⟨H,M⟩)(g:H[0]?=some (.ref a))(h:M[0]?=some (az .tree,k)):∀B∈(⟨H,M⟩:jz)::By H M c d a k,dV b B:=λB f=>by
 simp only[By,List.mem_cons,List.not_mem_nil,or_false]at f;rcases f with rfl|rfl|rfl|rfl
 ·exact e
 ·exact e.Wq c
 ·exact e.VU d
 ·exact e.at g h
theorem bw{Q:Fin 10->Prop}(c:Q 0)(d:Q 1)(e:Q 2)(f:Q 3)(g:Q 4)(h:Q 5)(i:Q 6)(j:Q 7)(k:Q 8)(l:Q 9)(b:Fin 10):Q b:=(@Fin.cases 9 (λa=>Q a) c (@Fin.cases 8 (λa=>Q a.succ) d (@Fin.cases 7 (λa=>Q a.succ.succ) e (@Fin.cases 6 (λa=>Q a.succ.succ.succ) f (@Fin.cases 5 (λa=>Q a.succ.succ.succ.succ) g (@Fin.cases 4 (λa=>Q a.succ.succ.succ.succ.succ) h (@Fin.cases 3 (λa=>Q a.succ.succ.succ.succ.succ.succ) i (@Fin.cases 2 (λa=>Q a.succ.succ.succ.succ.succ.succ.succ) j (@Fin.cases 1 (λa=>Q a.succ.succ.succ.succ.succ.succ.succ.succ) k (@Fin.cases 0 (λa=>Q a.succ.succ.succ.succ.succ.succ.succ.succ.succ) l (λa=>a.elim0))))))))))) b
theorem jC{a:Prop}(b:false=true):a:=Bool.noConfusion b
theorem Jf{rl pl0 ep U5:Nat}{XS:ug}{R:Wy dh}{ps:Wy cl}{F:AL}{tk:Nat}{a b:Fin 16}(i:Fin 10)(f:ps.length<=1000)(g:XS.size<=1000)(e:R[0]?=some (az .tree,eF a b)):
  OK u (iZ i.val rl pl0 ep U5 XS R ps F tk (Po i XS ps.length) (EV i R ps.length a b) (BA i) []):=by
 refine ct.member (xs:=XS) (rows:=R) (.head _) λt s=> ?_
 have v:0<R.length:=by
  rcases Nat.eq_zero_or_pos R.length with h|h
  ·rw[List.getElem?_eq_none (by lia)]at e;cases e
  ·exact h
 obtain⟨o,d⟩:∃o,XS[0]?=some o:=⟨XS[0]'(by lia),by simp[show 0<XS.size by lia]⟩;obtain⟨k,rfl⟩:=s 0 o d;have q:∀h:Heap,dV h ⟨XS,R⟩->∀B∈([⟨XS,R⟩,⟨e9 XS 1,R.drop 1⟩]:Wy jz),dV h B:=λh l B m=>by
  simp only[List.mem_cons,List.not_mem_nil,or_false]at m;rcases m with rfl|rfl
  ·exact l
  ·exact l.VU 1
 have r:∀h:Heap,dV h ⟨XS,R⟩->∀B∈([⟨XS,R⟩,⟨e9 XS 1,R.drop 1⟩,⟨#[.ref k],[(az .tree,eF a b)]⟩]:Wy jz),dV h B:=λh l B m=>by
  simp only[List.mem_cons,List.not_mem_nil,or_false]at m;rcases m with rfl|rfl|rfl
  ·exact l
  ·exact l.VU 1
  ·exact l.at d e
 refine bw (Q:=λi=>ct PW (W2 u) (KB (W2 u)) (iZ i.val rl pl0 ep U5 XS R ps F tk (Po i XS ps.length) (EV i R ps.length a b) (BA i) [])) ?_ ?_ ?_ ?_ ?_ ?_ ?_ ?_ ?_ ?_ i
 ·exact ct.more (I6 f g) λh c=>q h (c _ (.head _))
 ·exact ct.more (I7 (a:=a) (b:=b) f g d) λh c=>r h (c _ (.head _))
 ·exact ct.more (I8 (T:=eF a b) f g d) λh c=>iN (c _ (.head _)) d e
 ·exact ct.more (I9 (a0:=k) (T:=eF a b) f g) λh c=>iN (c _ (.head _)) d e
 ·exact ct.more (Ja (a0:=k) (T:=eF a b) f g) λh c=>iN (c _ (.head _)) d e
 ·exact ct.more (Jb (a0:=k) (T:=eF a b) f g) λh c=>iN (c _ (.head _)) d e
 ·exact ct.more (Jc (a:=a) (b:=b) f g d) λh c=>iN (c _ (.head _)) d e
 ·exact ct.more (Jd (a0:=k) (T:=eF a b) f g) λh c=>iN (c _ (.head _)) d e
 ·exact ct.more (Je (a0:=k) (T:=eF a b) f g) λh c=>iN (c _ (.head _)) d e
 ·have p:∀n:Bool,((#[dM b]:cl).toList==(#[48]:cl).toList)=n->sA b=(if n then 49 else 48):=λn j=>by
   unfold sA
   by_cases h:dM b=48
   ·rw[if_pos h];rw[h]at j;rw[<-j];rfl
   ·rw[if_neg h];cases n with
    |false=>rfl
    |true=>simp at j;exact absurd j h
  refine(?_:OK u (iZ 9 rl pl0 ep U5 XS R ps F tk (qI XS (1+ps.length) (1+ps.length)) (lm R (1+ps.length) (1+ps.length) (az .tree,ij a b++ #[sA b])) false []));cases j:((#[dM b]:cl).toList==(#[48]:cl).toList)with
  |true=>
   rw[p _ j];exact ct.more (ET (a:=a) (b:=b) f g d j) λh c=>iN (c _ (.head _)) d e
  |false=>
   rw[p _ j];exact ct.more (EU (a:=a) (b:=b) f g d j) λh c=>iN (c _ (.head _)) d e
section
open PySem.Calls PySem.SeqAt
structure vd where
 l:PySem.Expr
 op:CmpOp
 r:PySem.Expr
 p:Pos
noncomputable def xU:(b:PySem.Expr)->WA {a:vd//b= .Compare a.l [a.op] [a.r] a.p}
 | .Compare c [d] [f] e=>some ⟨⟨c,d,f,e⟩,rfl⟩
 |_=>none
noncomputable def BB:(a:CmpOp)->WA {id:String//Slot "list" (cmpInfo a).2.1 id/\∀b c:Wz,compareOp a b c=richCompare a b c}
 | .NotEq=>some ⟨"list.__ne__",PySem.F.slot_list_ne,λω ω=>rfl⟩
 | .Eq=>some ⟨"list.__eq__",PySem.F.slot_list_eq,λω ω=>rfl⟩
 |_=>none
noncomputable def Yh:(c:Wz)->WA {d:Unit//c= .type "list"}
 | .type b=>match PySem.W.S.strDecS b "list" with
  | .isTrue a=>some ⟨(),by rw[a]⟩
  | .isFalse _=>none
 |_=>none
noncomputable def Yi:(b:WH)->WA {a:Bool//b= .ok (.ret (.bool a))}
 | .ok (.ret (.bool a))=>some ⟨a,rfl⟩
 |_=>none
section
variable {R:Type} (ih:IH R) (ev:PySem.Expr->Env->Sem Wz) (tt:PySem.Expr->Env->Sem Bool)
noncomputable def gJ(a:Nat):aJ R Unit:=cB cJ λb=>cB (cC b a) λc=>cB (bg (Yh c.cls)) λω=>cR ()
noncomputable def uS(d:Nat)(c:Cx)(e:String)(a b:Nat):aJ R Bool:=match d with
 |0=>cX
 |d+1=>cB (f9 d c (.call (.builtin e) ⟨[.ref a,.ref b],[]⟩)) λg=>cB (bg (Yi g)) λf=>cR f.1
noncomputable def xV(b:Nat)(a:Cx)(c:vd)(f:Env):aJ R Bool:=cB (bg (BB c.op)) λid=>cB (cK (ih.t b a (ev c.l f))) λg=>cB (bg (c8 g)) λd=>cB (cK (ih.t b a (ev c.r f))) λh=>cB (bg (c8 h)) λe=>cB (gJ d.1) λω=>cB (gJ e.1) λω=>uS b a id.1 d.1 e.1
noncomputable def W5(c:Nat)(b:Cx)(d:PySem.Expr)(e:Env):aJ R Bool:=cB (bg (xU d)) λa=>cG (bL (lastMarks [a.1.op] [a.1.r])) (xV ih ev c b a.1 e)
noncomputable def j0(b:Nat)(a:Cx)(c:PySem.Expr)(d:Env):aJ R Bool:=cB cJ λe=>match e with
 |0=>cK (ih.t b a (tt c d))
 |1=>W5 ih ev b a c d
 |_=>cX
noncomputable def EW(b:Nat)(a:Cx)(c:Env):Wy PySem.Expr->aJ R Unit
 |[]=>cR ()
 |e::f=>cB (j0 ih ev tt b a e c) λd=>cG (bL d) (EW b a c f)
noncomputable def jt(b:Nat)(a:Cx)(c:PySem.Expr)(d:Env):aJ R Wz:=cB cJ λf=>match f with
 |0=>cK (ih.t b a (ev c d))
 |1=>cB (W5 ih ev b a c d) λe=>cR (.bool e)
 |_=>cX
noncomputable def YH:(a:Wz)->WA {b:Unit//a= .bool true}
 | .bool true=>some ⟨(),rfl⟩
 |_=>none
noncomputable def uT(b:Nat)(a:Cx)(c:Env):Wy PySem.Expr->aJ R Wz
 |[]=>cX
 |e::d=>match d with
  |[]=>jt ih ev b a e c
  |_::_=>cB (jt ih ev b a e c) λf=>cB (bg (YH f)) λω=>uT b a c d
end
noncomputable def Jg(a:PySem.Expr)(b:Env):Sem Bool:=isTrue a b (eval a b)
section
variable {R0:Type} {P:WJ} {w:WG} {K:Nat->WA gi} {F:R0->St->Prop} {Fm:Wy Env} {β:Type}
theorem ax.YW{a:Nat}:ax P w K F Fm (gJ a) λR b=>b.TypeIs (.ref a) "list" /\R () b:=
 .YM λg=>.Zd λe=>.YJ λf ω=>ax.ret.mono λR b c d=>⟨⟨e,d,f.2⟩,c⟩
theorem ax.Ze{d:Nat}{cx:Cx}{A:WK}(fm:A.frames=some Fm)(ok:oi A d cx){b:String}{a e:Nat}{f:CmpOp}(k:Slot "list" (cmpInfo f).2.1 b):ax P w K F Fm (Mine.uS d cx b a e) λR g=>g.TypeIs (.ref a) "list" ->g.TypeIs (.ref e) "list" ->wpAny (model P w) A (richCompare f (.ref a) (.ref e)) (λh g=>∃e,h= .bool e/\R e g) bM g:=by
 cases d with
 |zero=>exact .stop
 |succ d=>
  refine((ax.YO (c:= .call (.builtin b) ⟨[.ref a,.ref e],[]⟩) fm ok.Y3).YI λj=>ax.opt.YI λh:{h:Bool//j= .ok (.ret (.bool h))}=>ax.ret).mono λR g i l m=> ?_
  refine wpAny_richCompare_same_room l m k (wpAny_call (codeAny_mono i λj g ⟨h,_,i⟩=> ?_)) (by have:=ok.U9;refine(?_:A.units<9900);lia)
  rw[h.2];exact⟨(λn=>nomatch n),h.1,rfl,i⟩
noncomputable def yA(a:vd)(env:Env):Sem Wz:=eval a.l env>>=λb=>holding [b] (eval a.r env)>>=λc=>standAt a.p>>=λω=>operate [b,c] (compareOp a.op b c)
noncomputable def BC(c:Model)(A:WK)(e:Sem Wz)(d:Bool->WF->Prop)(a:WF):Prop:=wpAny c A e (λf a=>∃b,f= .bool b/\d b a) bM a
variable {a:vd}
theorem ve{env:Env}(b:lastMarks [a.op] [a.r]=false):eval (.Compare a.l [a.op] [a.r] a.p) env=yA a env:=by rw[arm_eval_Compare,markedEach_of_false _ _ _ b];rfl
theorem vf{env:Env}(c:lastMarks [a.op] [a.r]=false):isTrue (.Compare a.l [a.op] [a.r] a.p) env (eval (.Compare a.l [a.op] [a.r] a.p) env)=yA a env>>=λb=>holding [b] (truthy b):=by
 refine(?_:(eval a.l env>>=λd=>testChain a.p d [a.op] (markedEach [a.op] [a.r] (evalEach [a.r] env)))=_)
 rw[markedEach_of_false _ _ _ c];unfold yA;simp only[bind_assoc];rfl
section
variable {n:Nat} (ih:aN P w K F .own n) {d:Nat} {cx:Cx} {env:Env} {A:WK} (fm:A.frames=some Fm) (ok:oi A d cx)
include ih fm ok
theorem ax.Y8{a:vd}:ax P w K F Fm (Mine.xV (iter K .own ⟨P,w.params⟩ n) eval d cx a env) (BC (model P w) A (yA a env)):=by
 have f:=λ{m:Type} (k:Sem m)=>(ih d cx k A Fm fm ok).YK
 exact .YJ λid ω=>((f (eval a.l env)).YI (V:=λc=>BC (model P w) A (holding [c] (eval a.r env)>>=λg=>standAt a.p>>=λω=>operate [c,g] (compareOp a.op c g))) λc=>.YJ λi ω=>((f (eval a.r env)).YI (V:=λe=>BC (model P w) A (standAt a.p>>=λω=>operate [c,e] (compareOp a.op c e))) λe=>.YJ λj ω=>(ax.YW.YI λω=>ax.YW.YI λω=>ax.Ze fm ok id.2.1).mono λR h b=>by
  rw[i.2,j.2];refine ci (wpAny_standAt (wpAny_operate' ?_));rw[id.2.2];exact b.2.2 b.1 b.2.1).mono λR h b=>ci (wpAny_holding (aL b))).mono λR h b=>ci (aL b)
theorem ax.YX{a:PySem.Expr}:ax P w K F Fm (Mine.j0 (iter K .own ⟨P,w.params⟩ n) eval Jg d cx a env) λR c=>wpAny (model P w) A (isTrue a env (eval a env)) R bM c:=
 .YM λf=>match f with
  |0=>(ih d cx (Jg a env) A Fm fm ok).YK
  |1=>.YJ λh ω=>.YL λe=>(ax.Y8 ih fm ok).mono λR c b=>by
   rw[h.2,vf (bf e)];exact ci (wpAny_mono b (λj c ⟨i,a,b⟩=>a▸wpAny_holding (wpAny_truthy_bool b)) λω ω g=>g)
  |_+2=>.stop
theorem ax.YS{a:PySem.Expr}:ax P w K F Fm (Mine.jt (iter K .own ⟨P,w.params⟩ n) eval d cx a env) λR c=>wpAny (model P w) A (eval a env) R bM c:=
 .YM λg=>match g with
  |0=>(ih d cx (eval a env) A Fm fm ok).YK
  |1=>((ax.YJ λi ω=>.YL λf=>(ax.Y8 ih fm ok).mono λR c b=>by
   rw[i.2,ve (bf f)];exact b:ax P w K F Fm (W5 (iter K .own ⟨P,w.params⟩ n) eval d cx a env) (BC (model P w) A (eval a env))).YI λe=>ax.ret).mono λR c b=>wpAny_mono b (λj c ⟨e,a,b⟩=>a▸b) λω ω h=>h
  |_+2=>.stop
theorem ax.orT{a:Wy PySem.Expr}:ax P w K F Fm (Mine.EW (iter K .own ⟨P,w.params⟩ n) eval Jg d cx env a) λR c=>wpAny (model P w) A (allTrue .Or a env) (λe c=>e=false/\R () c) bM c:=by
 induction a with
 |nil=>exact ax.ret.mono λR c b=>cj ⟨rfl,b⟩
 |cons f a b=>
  refine((ax.YX ih fm ok).YI (V:=λe R c=>e=false/\wpAny (model P w) A (allTrue .Or a env) (λe c=>e=false/\R () c) bM c) λe=>(ax.gate λω=>b).mono λR c b=>⟨bf b.1,b.2⟩).mono λR c b=> ?_
  refine ci (m:=isTrue f env (eval f env)) (wpAny_mono b (λe c b=> ?_) λω ω g=>g)
  obtain⟨rfl,b⟩:=b;exact b
theorem ax.Zg{pos:Pos}{a:Wy PySem.Expr}:ax P w K F Fm (Mine.uT (iter K .own ⟨P,w.params⟩ n) eval d cx env a) λR e=>wpAny (model P w) A (boolOp pos .And (evalEach a env)) R bM e:=by
 induction a with
 |nil=>exact .stop
 |cons g a c=>
  cases a with
  |nil=>exact ax.YS ih fm ok
  |cons e2 a=>
   refine((ax.YS ih fm ok).YI λb=>ax.opt.YI λω:{i:Unit//b= .bool true}=>c).mono λR e c=> ?_
   refine(?_:wpAny (model P w) A (eval g env>>=λb=>standAt pos>>=λω=>holding [b] (truthy b)>>=λh=>match BoolOp.And,h with
    | .And,false| .Or,true=>pure b
    |_,_=>boolOp pos .And (evalEach (e2::a) env)) R bM e)
   refine ci (wpAny_mono c (λb e ⟨f,_,c⟩=> ?_) λω ω f=>f)
   rw[f.2];exact ci (wpAny_standAt (ci (wpAny_holding (wpAny_truthy_bool c))))
end
end
noncomputable def Sj(a:PySem.Expr)(b:Env):Sem Bool:=PySem.W.Fast.tw15418851999007992765 a b (PySem.W.Fast.tw14044960220447912780 a b)
theorem Jh:Sj=Jg:=by funext a b;unfold Sj Jg;rw[<-PySem.W.Fast.te15418851999007992765,<-PySem.W.Fast.te14044960220447912780]
noncomputable def J5:Stmt->Bool×Wy PySem.Expr
 | .If (.BoolOp .Or b _) _ [] _=>(true,b)
 | .If a _ [] _=>(false,[a])
 |_=>(false,[])
noncomputable def EX:Stmt->Wy PySem.Expr
 | .Return (some (.BoolOp .And a _)) _=>a
 |_=>[]
noncomputable def b5(a:WB)(S:Spec):aJ (WH×St) WH:=cB (EW (sC a) PySem.W.Fast.tw14044960220447912780 Sj S.dep ⟨none,S.top⟩ (gS S.code) (J5 (dH (dS S.code))).2) λω=>(sC a).b S.dep ⟨none,S.top⟩ (dS S.code).tail (gS S.code)
noncomputable def b6(a:WB)(S:Spec):aJ (WH×St) WH:=cB (uT (sC a) PySem.W.Fast.tw14044960220447912780 S.dep ⟨none,S.top⟩ (gS S.code) (EX (dH (dS S.code)))) λb=>cR (.ok (.ret b))
section
variable {u:WB} {S:Spec}
theorem pA(i:∃d m p,S.code= .block (.If d m [] p::(dS S.code).tail) (gS S.code)/\((∃o,d= .BoolOp .Or (J5 (dH (dS S.code))).2 o)\/[d]=(J5 (dH (dS S.code))).2))(c:WK)(g:Wy Env)(l:WH->St->Prop)(h:c.frames=some g)(j:MV c S.dep ⟨none,S.top⟩):ax PW (W2 u) (KB (W2 u)) l g (b5 u S) (runC (model PW (W2 u)) c S.code):=by
 obtain⟨d,m,p,i,q⟩:=i;have f:=hU (F:=l) u;unfold b5 sC;rw[<-l2]at f|-;rw[<-PySem.W.Fast.te14044960220447912780,Jh];generalize (J5 (dH (dS S.code))).2=r at*;have e0:execs ([]:Wy Stmt) (gS S.code)=pure Flow.next:=arm_execs_nil _
 have B:=f.2.2 _ _ (dS S.code).tail (gS S.code) c g h j.toT;have n:∀{R:WH->WF->Prop} {b:WF},wpAny (model PW (W2 u)) c (isTrue d (gS S.code) (eval d (gS S.code))) (λe b=>e=false/\WT PW (W2 u) c (execs (dS S.code).tail (gS S.code)) R b) bM b->runC (model PW (W2 u)) c S.code R b:=λa=>by
  rw[i];refine wpAny_execs_cons ?_;rw[arm_exec_If];refine ci (wpAny_standAt (ci (b8 (wpAny_mono a (λe b a=> ?_) λω ω k=>k))))
  rw[a.1,if_neg (by decide),e0];exact cj a.2
 rcases q with⟨o,rfl⟩|rfl
 ·exact((ax.orT f.1 h j.toT).YI λω=>B).mono λR b a=>n a
 ·exact(((ax.YX f.1 h j.toT).YI λe=>ax.gate λω=>ax.ret).YI λω=>B).mono λR b a=>n (wpAny_mono a (λe b a=>⟨bf a.1,a.2⟩) λω ω k=>k)
theorem pB(d:∃a g h,S.code= .block (.Return (some (.BoolOp .And (EX (dH (dS S.code))) a)) g::h) (gS S.code))(b:WK)(f:Wy Env)(e:WH->St->Prop)(j:b.frames=some f)(k:MV b S.dep ⟨none,S.top⟩):ax PW (W2 u) (KB (W2 u)) e f (b6 u S) (runC (model PW (W2 u)) b S.code):=by
 obtain⟨a,g,h,d⟩:=d;have i:=hU (F:=e) u;unfold b6 sC;rw[<-l2]at i|-;rw[<-PySem.W.Fast.te14044960220447912780];refine((ax.Zg (pos:=a) i.1 j k.toT).YI λn=>ax.ret).mono λR l c=> ?_
 rw[d];refine wpAny_execs_cons ?_;rw[arm_exec_Return];refine ci (wpAny_standAt ?_);refine ci (m:=boolOp a .And (evalEach (EX (dH (dS S.code))) (gS S.code))) (b8 (wpAny_mono c (λn l c=>cj c) λω ω o=>o))
end
end
section
open PySem.Calls
variable {b:WB->Wy TU} {a:WB}
theorem jT{S:WB->Spec}(i:Nat)(j:Wy (uh))(p:uh)(o:AL->SL->AL)(r:aw a b)(e:Wy (uh):=[])(J:Wy (Wy f8):=[])(l:uh:=[])(m:Wy f8:=[])(n:AL->SL->SL:=g4 [])(d:WB->Wy TG:=λω=>[])(f g:Wy (uh):=[])(h:Wy (Wy f8):=[])(Q:aG a d)
 (H:RL b5 Spec.UM (λc=>S (vB a c)) (λc=>⟨0,dc i,b (vB a c),j,e,J,d (vB a c),f,g,h⟩) p l m (vB a)=RR b5 Spec.UM Spec.res (λc=>S (vB a c)) (λc=>⟨0,dc i,b (vB a c),j,e,J,d (vB a c),f,g,h⟩) o n (vB a))
 (hc:∃k q t,(S a).code= .block (.If k q [] t::(dS (S a).code).tail) (gS (S a).code)/\((∃s,k= .BoolOp .Or (J5 (dH (dS (S a).code))).2 s)\/[k]=(J5 (dH (dS (S a).code))).2)):aI a S:=
 bK (v:=vB a) (S:=(λc=>S (vB a c))) (λc=>⟨0,dc i,b (vB a c),j,e,J,d (vB a c),f,g,h⟩) p l m o n a.b1 r Q H (pA hc)
theorem rT{S:WB->Spec}(j:Nat)(k:Wy (uh))(p:uh)(o:AL->SL->AL)(q:aw a b)(e:Wy (uh):=[])(f:Wy (Wy f8):=[])(l:uh:=[])(m:Wy f8:=[])(n:AL->SL->SL:=g4 [])(d:WB->Wy TG:=λω=>[])(g h:Wy (uh):=[])(i:Wy (Wy f8):=[])(Q:aG a d)
 (H:RL b6 Spec.UM (λc=>S (vB a c)) (λc=>⟨0,dc j,b (vB a c),k,e,f,d (vB a c),g,h,i⟩) p l m (vB a)=RR b6 Spec.UM Spec.res (λc=>S (vB a c)) (λc=>⟨0,dc j,b (vB a c),k,e,f,d (vB a c),g,h,i⟩) o n (vB a))
 (hc:∃r s t,(S a).code= .block (.Return (some (.BoolOp .And (EX (dH (dS (S a).code))) r)) s::t) (gS (S a).code)):aI a S:=
 bK (v:=vB a) (S:=(λc=>S (vB a c))) (λc=>⟨0,dc j,b (vB a c),k,e,f,d (vB a c),g,h,i⟩) p l m o n a.b1 q Q H (pB hc)
end
section
open PySem.Calls PySem.SeqAt
noncomputable def Ps(b:String)(a:ui)(c:Wy (Nat×gi))(d:Wz):Spec:=⟨.call (.builtin b) ⟨a,[]⟩,6,none,kJ c,λω ω=>uj d⟩
inductive ju (pre:Wy (Nat×gi)):Wz->Wz->Prop where
 |plain {x y:Wz} (h:Eqv x y true):ju pre x y
 |lists {a b:Nat} {ps:Wy cl} {F G:AL} {e1 e2:Nat} (h1:(a,cp ps F e1)∈pre) (h2:(b,cp ps G e2)∈pre):ju pre (.ref a) (.ref b)
noncomputable def fa(a:Wy (Nat×gi)):ui->ui->Prop
 |[],[]=>True
 |x::b,d::c=>ju a x d/\fa a b c
 |_,_=>False
theorem fa.len{a:Wy (Nat×gi)}:∀{c d:ui},fa a c d->c.length=d.length
 |[],[],_=>rfl
 |_::_,_::_,b=>congrArg (· +1) (fa.len b.2)
 |[],_::_,b=>b.elim
 |_::_,[],b=>b.elim
theorem fa.at{a:Wy (Nat×gi)}:∀{e f:ui},fa a e f->∀b (d:b<e.length) (g:b<f.length),ju a e[b] f[b]
 |_::_,_::_,c,0,_,_=>c.1
 |_::_,_::_,c,b+1,d,g=>fa.at c.2 b (by simpa using d) (by simpa using g)
 |[],_,_,b,d,_=>by simp at d
 |_::_,[],c,_,_,_=>c.elim
section
variable {P:WJ} {w:WG} {K:Nat->WA gi}
theorem pairAt{a:Wy (Nat×gi)}{A:WK}(m:∀o∈a,I.heap.get? o.1=some o.2)(t:A.units<cLine)(g:ju a v x):EqAt A I v x true:=by
 cases g with
 |plain g=>intro h w E f i;exact g h w A E I f i
 | @lists j k b F d e1 e2 r s=>
  by_cases l:j=k
  ·subst l;exact EqAt.same _
  have y:I.heap.IsList j ⟨d3 b F⟩:=⟨_,m _ r,rfl,e1,rfl⟩;have z:I.heap.IsList k ⟨d3 b d⟩:=⟨_,m _ s,rfl,e2,rfl⟩;have n:=RcAt.lists (A:=A) (e:=λω=>true) y z (by refine(?_:(d3 b F).length=(d3 b d).length);rw[d8,d8]) t λc p q=>by
   intro h w E f i;have e1:(⟨d3 b F⟩:ug)[c]= .bytes (b.getD c #[]) (F c):=uP b F c p;have e2:(⟨d3 b d⟩:ug)[c]= .bytes (b.getD c #[]) (d c):=uP b d c q;rw[e1,e2];exact Eqv.bytes (by simp) h w A.in1 E I f i
  rw[show((List.range (⟨d3 b F⟩:ug).size).all λω=>true)=true by simp]at n
  exact EqAt.of_refs l n
variable {more:Wy (Nat×gi)} {xs ys:ui}
theorem ws(j:fa more xs ys):ct P w K (Ps "list.__ne__" [.ref c,.ref a] ((c,cm xs.toArray d)::(a,cm ys.toArray e)::more) (.bool false)):=by
 intro g R f t x v o l q;have i:=el (pre:=(c,cm xs.toArray d)::(a,cm ys.toArray e)::more) l;have k:=i (c,cm xs.toArray d) (.head _);have p:=i (a,cm ys.toArray e) (.tail _ (.head _));have h:∀b∈more,f.heap.get? b.1=some b.2:=λb h=>i b (.tail _ (.tail _ h))
 have r:g.in1.units<cLine:=by have:=t.U9;refine(?_:g.units+1<9900);lia
 refine codeAny_call_builtin F.slot_list_ne.plain qr (F.slot_list_ne.check _ _ _ _ _ _ _ _ ⟨_,k,rfl⟩ (F.args_list_ne_2 _ _) ?_);refine list_neAt c a xs.toArray ys.toArray d e none none #[] #[] (by simpa using j.len) (λω=>true) P w g R f ⟨k,p,λs m n=> ?_, ?_⟩
 ·have:=pairAt h r (j.at s (by simpa using m) (by simpa using n));simpa using this
 ·have:=q (λω=>0) (λω=> #[]) f (gA l o ⟨f.toks,rfl⟩)
  rw[show(!(List.range xs.toArray.size).all λω=>true)=false by simp]
  exact this
theorem EY(j:fa more xs ys):ct P w K (Ps "list.__eq__" [.ref c,.ref a] ((c,cm xs.toArray d)::(a,cm ys.toArray e)::more) (.bool true)):=by
 intro g R f t x v o l q;have i:=el (pre:=(c,cm xs.toArray d)::(a,cm ys.toArray e)::more) l;have k:=i (c,cm xs.toArray d) (.head _);have p:=i (a,cm ys.toArray e) (.tail _ (.head _));have h:∀b∈more,f.heap.get? b.1=some b.2:=λb h=>i b (.tail _ (.tail _ h))
 have r:g.in1.units<cLine:=by have:=t.U9;refine(?_:g.units+1<9900);lia
 refine codeAny_call_builtin F.slot_list_eq.plain qq (F.slot_list_eq.check _ _ _ _ _ _ _ _ ⟨_,k,rfl⟩ (F.args_list_eq_2 _ _) ?_);refine list_eqAt c a xs.toArray ys.toArray d e none none #[] #[] (by simpa using j.len) (λω=>true) P w g R f ⟨k,p,λs m n=> ?_, ?_⟩
 ·have:=pairAt h r (j.at s (by simpa using m) (by simpa using n));simpa using this
 ·have:=q (λω=>0) (λω=> #[]) f (gA l o ⟨f.toks,rfl⟩)
  rw[show((List.range xs.toArray.size).all λω=>true)=true by simp]
  exact this
theorem lR{a:Wy (Nat×gi)}:∀(b:Wy cl) (F c:AL),fa a (d3 b F) (d3 b c)
 |[],_,_=>trivial
 |d::b,F,c=>⟨.plain (Eqv.bytes (by simp)),lR b (cy F) (cy c)⟩
theorem Eqv.none:Eqv .none .none true:=λc w a E e b d=>EqAt.same (A:=a) (s:=e) .none c w E b d
end
noncomputable def Pt(d:Wy cl)(e f:Wy AL->AL):U:=λa c b=>Ps "list.__eq__" [.ref (ad a 0),.ref (ad a 1)] [(ad a 0,cp d (e b) (eJ c 0)),(ad a 1,cp d (f b) (eJ c 1))] (.bool true)
noncomputable def Pu(d:Wy cl)(e f:Wy AL->AL):U:=λa c b=>Ps "list.__ne__" [.ref (ad a 0),.ref (ad a 1)] [(ad a 0,cp d (e b) (eJ c 0)),(ad a 1,cp d (f b) (eJ c 1))] (.bool false)
variable {a b:Wy AL->AL}
theorem EZ:∀d e c,OK u (Pt A a b d e c):=λd e c=>EY (more:=[]) (xs:=d3 A (a c)) (ys:=d3 A (b c)) (lR A _ _)
theorem E0:∀d e c,OK u (Pu A a b d e c):=λd e c=>ws (more:=[]) (xs:=d3 A (a c)) (ys:=d3 A (b c)) (lR A _ _)
end
section
noncomputable def TN(a:WC)(c:AL)(b:Nat->Wz):Nat->Wy String->Wy WL
 |_,[]=>[]
 |i,e::d=>dx a e (c i) (b i)::TN a c b (i+1) d
noncomputable def E1:Wy String:=["script","number","parents","one","two","encoding","more","signature","rows","bare","text","read","told","twin","early"]
noncomputable def gx(b:WC)(d:AL)(c:Nat->Wz)(a:Nat):gi:=ot (TN b d c 0 (E1.take a)) a
noncomputable def j3:gi:=⟨.type "cell",none,.cell none,#[]⟩
noncomputable def BE(c b a:Nat):gi:=⟨.none,none,.fields #[.int c 0,.int b 0,.ref a],#[]⟩
structure LC where
 (L cS cM cO cW:Nat)
noncomputable def Pw(a:LC):Env:=⟨vr [68],a.L,3,[(lq "wrong",a.cW),(lq "other",a.cO),(lq "message",a.cM),(lq "state",a.cS)],lq "law.<locals>.",some 975,.ref 974,some a.L,0⟩
noncomputable def mz(a:Nat)(b:LC):Code:= .block ((inner (mj PW.main.body [68])).drop a) (Pw b)
noncomputable def gX(b:Rd)(e:WA cl)(a:AL)(f:Nat):CQ:=⟨a 0,a 1,a 2,a 3,0,b.ps.length,[b.T],λω=>f,zq (a 15) (a 16) (a 17),cn 21 a,λc=>match c with|0=>a 7|1=>a 9|2=>a 12|3=>a 10|_=>a 13,Qt b e a,b.d.r,b.fA.person,b.fC.person⟩
structure sH where
 x:LC
 ks:AL
 V:Nat->Wz
 T:cl
 (tn pl U5:Nat)
 Fp:AL
 msg:cl
 (tm wl VM:Nat)
 XW:ug
 e:Bool
noncomputable def sH.vv(a:sH):Nat->Wz:=λb=>match b with
 |1=>.bytes a.T a.tn
 |2=>.ref a.pl
 |14=>.bool a.e
 |c=>a.V c
noncomputable def BF(c:WC)(a:sH)(f:Wy cl)(b:Nat)(d:Wz)(g:Nat)(e:ui):Wy aF:=⟨a.x.L,gx c a.ks a.vv 15,true⟩::pl [(a.x.cM,dP (.bytes a.msg a.tm)),(a.x.cO,j3),(a.x.cW,dP (.ref a.wl)),(a.wl,cm a.XW a.VM),(a.pl,cp f a.Fp a.U5),(393,ee b),(b,dq d cZ g e),(972,aT)]
noncomputable def uU(f:Nat)(b:WC)(a:sH)(h:Wy cl)(RW:Wy dh)(e:Nat)(c:Wz)(i:Nat)(g:ui):Spec:=
 ⟨mz f a.x,308-f,some a.x.L,⟨BF b a h e c i g,[],λd ω=>[gx b a.ks a.vv 15,dP (.bytes a.msg a.tm),dP (.ref (d 0)),dP (.ref a.wl),cm a.XW a.VM,cp h a.Fp a.U5,ee e,dq c cZ i g,BE 1000 78 (d 1)],nn,nn,nn,[⟨a.XW,RW⟩],nn⟩,λω ω=>uj (.bool true)⟩
noncomputable def J6(a:Rd)(b:cl):Rd:=⟨b,a.d,a.ds,a.msg,a.A,a.C,a.ps,a.en,a.E,a.fA,a.fC⟩
noncomputable def Sk(b c:cl):U:=λa e d=>fh "bytes.__eq__" [.bytes b (tk a 0),.bytes c (tk a 1)] [] λω=>.bool true
noncomputable def Ji(b:WC)(a:sH)(e:CQ)(d:Wy cl)(i j:Wz)(g:Nat)(f:Wz)(k:Nat)(h:ui):Wy aF:=⟨a.x.L,gx b a.ks a.vv 15,true⟩::pl ([(a.x.cO,dP (.ref e.c)),(a.pl,cp d a.Fp a.U5),(972,aT)]++uO b e d i j g f k h)
noncomputable def Px(e:WC)(b:sH)(a:CQ)(f:Wy cl)(j k:Wz)(h:Nat)(g:Wz)(l:Nat)(i:ui):Spec:=
 ⟨mz 29 b.x,279,some b.x.L,⟨Ji e b a f j k h g l i,[],λm ω=>[gx e b.ks b.vv 15,dP (.ref a.c),cp f b.Fp b.U5,BE 1000 78 (m 0),eu 888 a.d,o9 0 e (IS a j k) a.ks,cp a.bs a.F a.Va,cp f a.Fp a.Wl,ee h,dq g cZ l i],nn,nn,nn,[],nn⟩,λω ω=>uj (.bool true)⟩
variable {a:sH}
theorem Jj{b:CQ}{d:Wz}{f:AL->Wz}(i:b.T=a.T)(j:OK u (aR (Pm u) b A x d c v e L f)):aI u (λu=>Px (Pm u) a b A x d c v e L):=by
 have l:aw u (λu=>[Sk b.T a.T,Pt A (λω=>b.Fp) (λω=>a.Fp),λg k h=>aR (Pm u) b A x d c v e L f]):=⟨λg k h=>lB (by rw[i];simp),EZ,λg k h=>j,cg⟩
 clear i j;exact rT 0x102307f15f38f138fa17f6607201213307f16600f0101431f407f01210f770839400007208f0dd0dd0dd400f0111020120023100ed705f011d000011d12d0101211103110300003003311 [[],[9,4],[16,17,18,19,20,21]] [9,8,7,6,5,4,3,2,1,0] (aE [66]) l (Q:=trivial) (H:=by kernel_rfl) (hc:=⟨_,_,_,rfl⟩)
theorem Jk{RW:Wy dh}{y:Rd}{sg:WA cl}{h:AL->Wz}(k:y.d.r=a.T)(n:OK u (eN a.wl a.VM a.XW RW a.msg a.tm))(m:∀j,OK u (HY (Pm u) (J6 y (cz RW a.msg)) sg j c e v L))
 (l:∀i j,OK u (aR (Pm u) (gX (J6 y (cz RW a.msg)) sg i j) y.ps (gw y.fA.time (i 10)) (gw y.fC.time (i 13)) c v e L h)):aI u (λu=>uU 28 (Pm u) a y.ps RW c v e L):=by
 have o:aw u (λu=>[λf g b=>eN a.wl a.VM a.XW RW a.msg a.tm,λf g b=>HY (Pm u) (J6 y (cz RW a.msg)) sg (tk f 1) c e v L,λf g b=>Px (Pm u) a (gX (J6 y (cz RW a.msg)) sg (cH b 0) (cH b 1 0)) y.ps (gw y.fA.time (cH b 0 10)) (gw y.fC.time (cH b 0 13)) c v e L]):=⟨λf g b=>n,λf g b=>m _,λf g b=>Jj k (l _ _),cg⟩
 clear k n m l;exact bT 0x1160cf200f01010005301100112993 [[5],[7,8],[6,8,11,14,0,1,2,3,12,13]] [8,7,6,5,4,3,2,1,0] (aE [3,5]) o (J:=[[.UO 0],[],[]])
noncomputable def sH.Vn(a:sH):sH:={a with e:=false}
noncomputable def sH.early(a:sH):sH:={a with e:=true}
theorem E2{RW:Wy dh}(f:OK u (uU 28 (Pm u) a.Vn A RW c v e L)):aI u (λu=>uU 27 (Pm u) a.Vn A RW c v e L):=
 bT 0x1113 [[0,1,2,3,4,5,6,7,8]] [8,7,6,5,4,3,2,1,0] (aE [0,2]) ⟨λb g d=>f,cg⟩ (Y:=λu=>[λb g d=>uU 28 (Pm u) a.Vn A RW c v e L]) (J:=[[.UO 0]])
noncomputable def wu(b:WC)(a:sH)(f:Wy cl)(RW:Wy dh)(d:Nat)(c:Wz)(g:Nat)(e:ui):Spec:=
 ⟨mz 27 a.x,281,some a.x.L,⟨BF b a.early f d c g e,[],λh ω=>[gx b a.ks a.early.vv 15,dP (.bytes a.msg a.tm),j3,dP (.ref a.wl),cm a.XW a.VM,cp f a.Fp a.U5,ee d,dq c cZ g e,BE 998 28 (h 0)],nn,nn,nn,[⟨a.XW,RW⟩],nn⟩,λω ω=>uj (.bool true)⟩
noncomputable def TH:Nat:=0x112afa208f10d10d10d61ef11020120023170cf200f01010000fd0dd0110011201211103110300003003311
theorem qv{RW:Wy dh}(h:OK u (eN a.wl a.VM a.XW RW a.msg a.tm))(g:∀i,OK u (xz (cz RW a.msg) i c v e L)):aI u (λu=>wu (Pm u) a A RW c v e L):=
 bT TH [[15],[17,18]] [8,7,6,5,4,3,2,1,0] (aE [13]) ⟨λb f d=>h,λb f d=>g _,cg⟩ (Y:=λω=>[λb f d=>eN a.wl a.VM a.XW RW a.msg a.tm,λb f d=>xz (cz RW a.msg) (tk b 1) c v e L]) (J:=[[.UO 0],[]])
theorem E3{RW:Wy dh}(h:OK u (eN a.wl a.VM a.XW RW a.msg a.tm))(g:∀i,OK u (EJ (cz RW a.msg) i c v e L)):aI u (λu=>wu (Pm u) a A RW c v e L):=
 bT TH [[15],[17,18]] [8,7,6,5,4,3,2,1,0] (aE [13]) ⟨λb f d=>h,λb f d=>g _,cg⟩ (Y:=λω=>[λb f d=>eN a.wl a.VM a.XW RW a.msg a.tm,λb f d=>EJ (cz RW a.msg) (tk b 1) c v e L]) (J:=[[.UO 0],[]])
end
section
structure nZ where
 x:LC
 ks:AL
 V:Nat->Wz
 T:cl
 (tn pl U5:Nat)
 Fp:AL
 msg:cl
 tm:Nat
 ss:SS
 place:Int
 (t1 rl Vk:Nat)
 XS:ug
noncomputable def nZ.vv(a:nZ):Nat->Wz:=λb=>match b with
 |1=>.bytes a.T a.tn
 |2=>.ref a.pl
 |8=>.ref a.rl
 |c=>a.V c
noncomputable def gH(c:AL)(b d:Nat):AL:=λa=>match Nat.beq a b with
 |true=>d
 |false=>c a
noncomputable def lS(b:Nat->Wz)(c:Nat)(d:Wz):Nat->Wz:=λa=>match Nat.beq a c with
 |true=>d
 |false=>b a
noncomputable def n1(a:gi):Wz:=match a.data with
 | .cell (some b)=>b
 |_=>.none
noncomputable def uV(g:WC)(a:nZ)(e:Wy cl)(b:Nat)(c:Wz)(f:Nat)(d:ui):Wy (Nat×gi):=[(a.x.cS,dP (.ref a.ss.st)),(a.x.cM,dP (.bytes a.msg a.tm)),(a.x.cO,j3),(a.x.cW,j3),(a.ss.st,a.ss.oo a.place a.t1),(a.ss.sc,cm a.ss.vs a.ss.Vc),(a.rl,cm a.XS a.Vk),(a.pl,cp e a.Fp a.U5),(393,ee b),(b,dq c cZ f d),(972,aT)]
noncomputable def QN(a:Bool)(b:Nat):gi:=match a with
 |true=>j3
 |false=>dP (.ref b)
noncomputable def uW(b:Bool)(a:Nat):gi:=match b with
 |true=>BE 998 28 a
 |false=>BE 1000 78 a
noncomputable def jK(d:WC)(a:nZ)(h:Wy cl)(f:Nat)(e:Wz)(i:Nat)(g:ui)(c:Bool)(b:AL):uk:=[gx d (gH a.ks 14 (b 0)) (lS a.vv 14 (.bool c)) 15,dP (.ref a.ss.st),dP (.bytes a.msg a.tm),QN c (b 1),dP (.ref (b 2)),a.ss.oo (a.place+1) (b 3),cm a.ss.vs a.ss.Vc,cm a.XS a.Vk,cp h a.Fp a.U5,ee f,dq e cZ i g,uW c (b 4)]
noncomputable def n2(b:WC)(a:nZ)(f:Wy cl)(h:Wy dh)(d:Nat)(c:Wz)(g:Nat)(e:ui)(j:Bool):Spec:=
 ⟨mz 26 a.x,282,some a.x.L,⟨⟨a.x.L,gx b a.ks a.vv 14,true⟩::pl (uV b a f d c g e),[],λi ω=>jK b a f d c g e j i,nn,nn,nn,[⟨a.XS,h⟩],nn⟩,λω ω=>uj (.bool true)⟩
noncomputable def Wp(a:nZ)(f:Nat->ug)(g:Bool)(e:uk)(d:AL):sH:=let c:=e[0]?.getD default
 ⟨a.x,λb=>dN c b,λb=>aA c b,a.T,df (aA c 1),a.pl,a.U5,a.Fp,a.msg,df (n1 (e[1]?.getD default)),d 1,0,f (d 2),g⟩
noncomputable def TJ:Nat:=0x110ff2020bf020cff09f1011111211001aa663
variable {b:Wy dh} {d:Nat->ug} {a:nZ}
theorem E4(k:∀g i h,OK u (mv a.ss a.place 10 c g i h))(m:∀o,OK u (iZ c a.rl a.pl a.Vk a.U5 a.XS b A a.Fp o d M true []))(l:∀j:sH,j.T=a.T->j.msg=a.msg->OK u (wu (Pm u) j A M e v f L)):aI u (λu=>n2 (Pm u) a A b e v f L true):=by
 have n:aw u (λu=>[mv a.ss a.place 10 c,λg i h=>iZ c a.rl a.pl a.Vk a.U5 a.XS b A a.Fp (tk g 2) d M true [],λg i h=>wu (Pm u) (Wp a d true i (cH h 0)) A M e v f L]):=⟨k,λg i h=>m _,λg i h=>l _ rfl rfl,cg⟩
 exact bT TJ [[5,6],[7,8],[5,7,8,9,4,13,14,15,16]] [11,10,9,8,7,6,5,4,3,2,1,0] (aE [16,0,6,3,20]) n (J:=[[],[.UO 0],[.UO 0]])
theorem E6(k:∀g i h,OK u (mv a.ss a.place 10 c g i h))(m:∀o,OK u (iZ c a.rl a.pl a.Vk a.U5 a.XS b A a.Fp o d M false []))(l:∀j:sH,j.T=a.T->j.msg=a.msg->OK u (uU 27 (Pm u) j.Vn A M e v f L)):aI u (λu=>n2 (Pm u) a A b e v f L false):=by
 have n:aw u (λu=>[mv a.ss a.place 10 c,λg i h=>iZ c a.rl a.pl a.Vk a.U5 a.XS b A a.Fp (tk g 2) d M false [],λg i h=>uU 27 (Pm u) (Wp a d false i (cH h 0)).Vn A M e v f L]):=⟨k,λg i h=>m _,λg i h=>l _ rfl rfl,cg⟩
 exact bT TJ [[5,6],[7,8],[5,7,8,9,4,13,14,15,16]] [11,10,9,8,7,6,5,4,3,2,1,0] (aE [16,20,6,3,28]) n (J:=[[],[.UO 0],[.UO 0]])
end
section
open PySem.Calls PySem.SeqAt
section
variable {P:WJ} {w:WG} {K:Nat->WA gi}
theorem Sl(b:Heap)(a:Addr)(c d:gi->gi):(b.update a c).update a d=b.update a (λe=>d (c e)):=by
 obtain⟨i⟩:=b;simp only[Heap.update];congr 1;apply Array.ext
 ·simp
 ·intro h f g;simp[Array.getElem_modify];split<;>rfl
noncomputable def Py(a:ug):Nat:=if a.size==0 then 0 else 1
noncomputable def Jl(S c:Nat)(a:ug)(b:Nat):Spec:=FR "list.__init__" [.ref S,.ref c] [(S,cm #[] 0),(c,cm a b)] [cm a (Py a),cm a b] .none
noncomputable def E7(b:ug)(a:gi):gi:=Obj.mapSeq (· ++b) (Obj.mapSeq (λω=>(#[]:ug)) a)
theorem qw(a:ug):E7 a (cm #[] 0)=cm a (Py a):=by unfold E7 cm;refine(?_:(⟨_,_,.seq (#[]++a) (if(#[]++a).size==(#[]:ug).size then(if(#[]:ug).size==(#[]:ug).size then 0 else 1)else _),_⟩:gi)=_);rw[Array.empty_append];rfl
theorem E8{S:Nat}(q:H.size<=1000000):ct P w K (Jl S c H a):=by
 intro i R d v t s k b l;have e:d7 K (kJ [(S,cm #[] 0),(c,cm H a)]) (aS i) d:=⟨b.pre,b.nd,b.UR,b.U6,b.UX⟩;have m:=el e (S,cm #[] 0) (.head _);have n:=el e (c,cm H a) (.tail _ (.head _));have p:c≠S:=λg=>by
  have:=b.nd;simp[Jl,FR,s2,addrs,pl]at this;exact this g.symm
 have r:H.size<=sizeLine:=Nat.le_trans q (by decide);refine dY (by decide+kernel) F.entry_list_init (wpAny_list_init_seq S c (.inl rfl) p m n rfl rfl ?_ r);have g:=Sl d.heap S (Obj.mapSeq (λω=>(#[]:ug))) (Obj.mapSeq (· ++H))
 rw[g];refine l (λω=>0) (λω=> #[]) _ ?_
 have j:=gA (al:=λω=>0) (sl:=λω=> #[]) (s1:={d with toks:=d.toks}) e k ⟨d.toks,rfl⟩
 have h:=ix (E':=s2 [(S,cm #[] 0),(c,cm H a)] [E7 H (cm #[] 0),cm H a]) (o:=cm #[] 0) (p0:=cm #[] 0) (Pr:=pl [(c,cm H a)]) (ps:=[cm H a]) (f:=E7 H) j e rfl rfl (by rw[qw];rfl) (by rw[qw];exact g0 _ _ _ rfl) rfl rfl rfl rfl rfl rfl rfl rfl;rw[qw]at h;exact h
end
noncomputable def Pz(d:Wy cl)(b:AL):U:=λa c e=>Jl (ad a 0) (ad a 1) ⟨d3 d b⟩ (eJ c 1)
theorem E9(d:A.length<=1000):∀a c b,OK u (Pz A y a c b):=λa c b=>E8 (by refine(?_:(d3 A y).length<=_);rw[d8];lia)
end
section
structure MD where
 (pl U5:Nat)
 Fp:AL
 (p1 Vf p2 Vd:Nat)
 t:AL
 cX:Nat
noncomputable def GB(a:MD)(b:SD):Wy (Nat×gi):=[(a.pl,cp b.ps a.Fp a.U5),(a.p1,dJ b.i1 b.j1 a.Vf (a.t 0) (a.t 1)),(a.Vf,gU b.z1 (a.t 2) (a.t 3)),(a.p2,dJ b.i2 b.j2 a.Vd (a.t 4) (a.t 5)),(a.Vd,gU b.z2 (a.t 6) (a.t 7)),(693,fG a.cX)]
noncomputable def QO(a:MD)(b:SD)(c:cl):Spec:=
 ⟨ul 970 [.bytes b.tree (a.t 8),.ref a.pl,.ref a.p1,.ref a.p2,iX b.en (a.t 9),iX b.sg (a.t 10),.bytes b.body (a.t 11)],262,none,UM (GB a b) (λω=>[cp b.ps a.Fp a.U5,dJ b.i1 b.j1 a.Vf (a.t 0) (a.t 1),gU b.z1 (a.t 2) (a.t 3),dJ b.i2 b.j2 a.Vd (a.t 4) (a.t 5),gU b.z2 (a.t 6) (a.t 7),fG a.cX]) (λω=>[]),λd ω=>uj (.bytes c (d 0))⟩
noncomputable def QP(b:SD)(g c:Wz)(f:Bool)(e d:Nat)(a:AL):CM:=⟨g,c,f,.ref e,iX b.en (a 0),iX b.sg (a 1),.ref d,.bool false,.bool false,.bytes b.tree (a 2),.bytes b.body (a 3),.bytes (dv b.i1) (a 4),.int (dt.getD b.j1.val 0) (a 5),.int (aC b.z1).2.1 (a 6),.bytes (dv b.i2) (a 7),.int (dt.getD b.j2.val 0) (a 8),.int (aC b.z2).2.1 (a 9)⟩
noncomputable def Fa(h:WC)(e:SA)(f:SD)(m l:Wz)(i:Nat)(j:Wy Ev)(k:cl):Spec:=
 ⟨ul 256 [.ref e.c],230,none,⟨pl ([(e.c,eu 888 e.d),(e.d,o9 1 h (QP f m l true e.lp e.le e.t) e.ks),(e.lp,cp f.ps e.F e.ep),(e.le,cm (ei f.xs.length e.a e.b) e.VC)]++[(693,fG i)]),[],λg ω=>[eu 888 e.d,o9 1 h (QP f .none (.ref (g 1)) false e.lp e.le e.t) e.ks,cp f.ps e.F e.ep,cm (ei f.xs.length e.a e.b) e.VC]++[fG i],nn,λg ω=>[⟨g 1,cp (h9 j f.body) (jH 2 QD g) (bX f.body 2 j),false⟩],nn,[e.UO f],nn⟩,λg ω=>uj (.bytes k (g 0))⟩
variable {a:Wy Ev} {v:SD}
theorem Jm{d:WC}{b:SA}{c:Wz}(h:(aC v.z1).2.2=false)(i:(aC v.z2).2.2=false):Fa d b v c x e a k=Es d 1 b v c x e a k:=by
 have g:∀c x f,QP v c x f b.lp b.le b.t=b.xx v c x f:=λc x f=>by
  unfold QP SA.xx Iz;rw[h,i]
 unfold Fa Es SA.cells SA.objs;simp only[g]
noncomputable def v0(a:SD):SD:={a with xs:=[]}
noncomputable def v1(a:SD)(b c:WA cl):SD:=⟨a.i1,a.j1,a.z1,a.i2,a.j2,a.z2,a.tree,a.ps,b,[],c,a.body⟩
noncomputable def Sm(a:MD)(c:Code)(b:uk):SA:=let e:=b[1]?.getD default
 ⟨ad c 0,SY b 0,hu (aA e 4),hu (aA e 7),eJ b 2,eJ b 3,0,0,a.Fp,λd=>dN e d,λd=>match d with|0=>a.t 9|1=>a.t 10|2=>a.t 8|3=>a.t 11|4=>a.t 0|5=>a.t 1|6=>a.t 3|7=>a.t 4|8=>a.t 5|_=>a.t 7⟩
noncomputable def TL:Nat:=0x1000a00f320f555540cf2ddff63f001f18f218f12325f201202118f20333006325f112740cf301303fb0f00f19f219f114372f401404165f40555e08f8aaa01a1abbb01b1b0403f10f09f809f1227f2124fc40cf801808f56f001f18f218f1f18f90aaa0dd40cf901909f56f001f18f218f1f18fa0bbb0ed40cfa01a0afb0f001f18f218f1b372fb01b0b165fb0ccce08f0fd13d13d13d0113d113d14d14d14d0114d114d0403f10f09f809f1227f2124f13d40cf0fd010fd00fdf56f001f18f218f1f18f10d011d11d11d14d40cf10d0110d010df56f001f18f218f1f18f11d012d12d12d15d40cf11d0111d011df57f001f18f218f1f19f12d013d13d13d16d16d40cf12d0112d012df57f001f18f218f1f19f13d014d14d14d17d17d40cf13d0113d013df57f001f18f218f1f19f14d015d15d15d18d18d40cf14d0114d014d317f0120ff1111001f18f218f120cf002f115d511f16d16d16d19d805f15d100f015d16d01
theorem PA{q:MD}(e:(aC v.z1).2.2=false)(f:(aC v.z2).2.2=false)(c:mr (v0 v) a)(g:s3 (h9 a v.body) k):OK u (QO q (v0 v) k):=by
 have b:aw u (λu=>[tY (Pm u),Qx,Pz v.ps q.Fp,λd h l=>Fa (Pm u) (Sm q d h) (v1 v v.en v.sg) .none .none q.cX a k]):=⟨jF,uy,E9 (Nat.le_trans c.ps (by decide)),λd h l=>by
  refine(?_:OK u (Fa _ _ (v0 v) _ _ _ _ _));rw[Jm (v:=v0 v) e f];exact A0 c (by decide) g,cg⟩
 clear e f c g;refine(?_:aI u (λω=>QO q (v1 v v.en v.sg) k))
 generalize v.en=j,v.sg=i at*;cases j with
 |none=>cases i with
  |none=>exact oT TL [[],[],[0,7],[20,21,18,23,30]] [5,4,3,2,1,0] (aE [809]) b (J:=[[],[],[],[.cells []]])
  |some m=>exact oT TL [[],[],[0,7],[20,21,18,23,30]] [5,4,3,2,1,0] (aE [809]) b (J:=[[],[],[],[.cells []]])
 |some n=>cases i with
  |none=>exact oT TL [[],[],[0,7],[20,21,18,23,30]] [5,4,3,2,1,0] (aE [809]) b (J:=[[],[],[],[.cells []]])
  |some m=>exact oT TL [[],[],[0,7],[20,21,18,23,30]] [5,4,3,2,1,0] (aE [809]) b (J:=[[],[],[],[.cells []]])
end
variable {G:Bool}
section
structure fD where
 q:nZ
 (ml VF a b p1 Vf p2 Vd:Nat)
 t:AL
 (te ts tw cX:Nat)
 W:cl
noncomputable def fD.vv(a:fD)(f:SD)(b e:WA cl):Nat->Wz:=λc=>match c with
 |1=>.bytes f.tree a.q.tn
 |2=>.ref a.q.pl
 |3=>.ref a.p1
 |4=>.ref a.p2
 |5=>iX b a.te
 |6=>.ref a.ml
 |7=>iX e a.ts
 |8=>.ref a.q.rl
 |10=>.bytes a.W a.tw
 |d=>a.q.V d
noncomputable def fE(a:Fin 6)(b:Bool)(c d:Nat):gi:=eE #[.bytes (aC a).1 c,.int (aC a).2.1 d,.bool b]
noncomputable def fD.q2(a:fD)(b:SD):nZ:=⟨a.q.x,a.q.ks,a.q.V,b.tree,a.q.tn,a.q.pl,a.q.U5,a.q.Fp,b.body,a.q.tm,a.q.ss,a.q.place,a.q.t1,a.q.rl,a.q.Vk,a.q.XS⟩
noncomputable def xZ(c:fD)(d:SD)(e:Nat)(f g:Bool):Wy (Nat×gi):=[(c.ml,cm (ei e c.a c.b) c.VF),(c.p1,dJ d.i1 d.j1 c.Vf (c.t 0) (c.t 1)),(c.Vf,fE d.z1 f (c.t 2) (c.t 3)),(c.p2,dJ d.i2 d.j2 c.Vd (c.t 4) (c.t 5)),(c.Vd,fE d.z2 g (c.t 6) (c.t 7)),(693,fG c.cX)]
noncomputable def Fc(c:WC)(b:fD)(a:SD)(h j:WA cl)(g:Nat)(f:Wz)(k:Nat)(i:ui)(e:Bool)(d:AL):uk:=gx c (gH b.q.ks 14 (d 0)) (lS (b.vv a h j) 14 (.bool e)) 15::(jK c (b.q2 a) a.ps g f k i e d).tail
noncomputable def qx(c:WC)(a:fD)(b:SD)(f i:WA cl)(h:Nat)(k l:Bool)(m:Wy dh)(e:Nat)(d:Wz)(j:Nat)(g:ui)(o:Bool):Spec:=
 ⟨mz 25 a.q.x,283,some a.q.x.L,⟨⟨a.q.x.L,gx c a.q.ks (a.vv b f i) 14,true⟩::pl (uV c (a.q2 b) b.ps e d j g++xZ a b h k l),[],λn ω=>Fc c a b f i e d j g o n++(xZ a b h k l).map (·.2),nn,nn,nn,[⟨a.q.XS,m⟩],nn⟩,λω ω=>uj (.bool true)⟩
noncomputable def Wu(a:fD)(e:SD)(d:uk):nZ:=let c:=d[0]?.getD default
 ⟨a.q.x,λb=>dN c b,λb=>aA c b,e.tree,df (aA c 1),a.q.pl,a.q.U5,a.q.Fp,e.body,df (n1 (d[2]?.getD default)),a.q.ss,a.q.place,a.q.t1,a.q.rl,a.q.Vk,a.q.XS⟩
noncomputable def Fd(h:WG)(i:fD)(a:SD)(j m:WA cl)(k:Nat)(n o:Bool)(b:Wy dh)(d:Nat)(c:Wz)(g:Nat)(f:ui)(e:Bool):JR:=
 (qx h.params i a j m k n o b d c g f e,[λp l q=>n2 h.params (Wu i a l) a.ps b d c g f e],[])
noncomputable def PB(j:WG)(k:fD)(i:SD)(e g:WA cl)(l m:Bool)(a:Wy dh)(c:Nat)(b:Wz)(h:Nat)(f:ui)(d:Bool):JR:=Fd j k i e g 1 l m a c b h f d
noncomputable def PD(j:WG)(k:fD)(i:SD)(e g:WA cl)(l m:Bool)(a:Wy dh)(c:Nat)(b:Wz)(h:Nat)(f:ui)(d:Bool):JR:=Fd j k i e g 2 l m a c b h f d
noncomputable def PE(j:WG)(k:fD)(i:SD)(e g:WA cl)(l:Bool)(a:Wy dh)(c:Nat)(b:Wz)(h:Nat)(f:ui)(d:Bool):JR:=Fd j k i e g 0 true l a c b h f d
noncomputable def PF(j:WG)(k:fD)(i:SD)(e g:WA cl)(a:Wy dh)(c:Nat)(b:Wz)(h:Nat)(f:ui)(d:Bool):JR:=Fd j k i e g 0 false true a c b h f d
noncomputable def TM:Nat:=0x1110dd002f010dd10dd3
variable {f:Bool} {e:WA cl} {a:SD} {b:fD}
theorem Fe(h:∀g:nZ,g.T=a.tree->g.msg=a.body->g.ss=b.q.ss->g.place=b.q.place->g.XS=b.q.XS->OK u (n2 (Pm u) g a.ps M c v d L D)):aI u (λu=>qx (Pm u) b a e V 1 f G M c v d L D):=by
 have i:aw u (λu=>(PB (W2 u) b a e V f G M c v d L D).2.1):=⟨λj l k=>h _ rfl rfl rfl rfl rfl,cg⟩
 exact bT TM [[0,1,2,3,4,5,6,7,8,9,10,11]] [17,16,15,14,13,12,11,10,9,8,7,6,5,4,3,2,1,0] (aE [2,4,6,8,10]) i (J:=[[.UO 0]])
theorem Ff(h:∀g:nZ,g.T=a.tree->g.msg=a.body->g.ss=b.q.ss->g.place=b.q.place->g.XS=b.q.XS->OK u (n2 (Pm u) g a.ps M c v d L D)):aI u (λu=>qx (Pm u) b a e V 2 f G M c v d L D):=by
 have i:aw u (λu=>(PD (W2 u) b a e V f G M c v d L D).2.1):=⟨λj l k=>h _ rfl rfl rfl rfl rfl,cg⟩
 exact bT TM [[0,1,2,3,4,5,6,7,8,9,10,11]] [17,16,15,14,13,12,11,10,9,8,7,6,5,4,3,2,1,0] (aE [2,4,6,8,10]) i (J:=[[.UO 0]])
theorem Fg{z1 G:Bool}(g:∀f:nZ,f.T=a.tree->f.msg=a.body->f.ss=b.q.ss->f.place=b.q.place->f.XS=b.q.XS->OK u (n2 (Pm u) f a.ps M c v d L D)):aI u (λu=>qx (Pm u) b a e V 0 true G M c v d L D):=by
 have h:aw u (λu=>(PE (W2 u) b a e V G M c v d L D).2.1):=⟨λi k j=>g _ rfl rfl rfl rfl rfl,cg⟩
 exact bT 0x1110dd002f010dd10dd10ed0ed0ed010ed10ed0fd0fd0fd010fd10fd013 [[0,1,2,3,4,5,6,7,8,9,10,11]] [17,16,15,14,13,12,11,10,9,8,7,6,5,4,3,2,1,0] (aE [4,6,8,10,12]) h (J:=[[.UO 0]])
theorem Fh{z1 z2:Bool}(g:∀f:nZ,f.T=a.tree->f.msg=a.body->f.ss=b.q.ss->f.place=b.q.place->f.XS=b.q.XS->OK u (n2 (Pm u) f a.ps M c v d L D)):aI u (λu=>qx (Pm u) b a e V 0 false true M c v d L D):=by
 have h:aw u (λu=>(PF (W2 u) b a e V M c v d L D).2.1):=⟨λi k j=>g _ rfl rfl rfl rfl rfl,cg⟩
 exact bT 0x1110dd002f010dd10dd10ed0ed0ed010ed10ed0fd0fd0fd010fd10fd01110d10d10d0110d110d11d11d11d0111d111d013 [[0,1,2,3,4,5,6,7,8,9,10,11]] [17,16,15,14,13,12,11,10,9,8,7,6,5,4,3,2,1,0] (aE [6,8,10,12,14]) h (J:=[[.UO 0]])
noncomputable def Fi(a:MD)(b:SD)(c:cl):Spec:=
 ⟨ul 970 [.bytes b.tree (a.t 8),.ref a.pl,.ref a.p1,.ref a.p2,iX b.en (a.t 9),iX b.sg (a.t 10),.bytes b.body (a.t 11)],262,none,UM [(a.pl,cp b.ps a.Fp a.U5),(a.p1,dJ b.i1 b.j1 a.Vf (a.t 0) (a.t 1)),(a.Vf,fE b.z1 false (a.t 2) (a.t 3)),(a.p2,dJ b.i2 b.j2 a.Vd (a.t 4) (a.t 5)),(a.Vd,fE b.z2 false (a.t 6) (a.t 7)),(693,fG a.cX)] (λω=>[cp b.ps a.Fp a.U5,dJ b.i1 b.j1 a.Vf (a.t 0) (a.t 1),fE b.z1 false (a.t 2) (a.t 3),dJ b.i2 b.j2 a.Vd (a.t 4) (a.t 5),fE b.z2 false (a.t 6) (a.t 7),fG a.cX]) (λω=>[]),λd ω=>uj (.bytes c (d 0))⟩
theorem Jn{b:MD}(h:(aC a.z1).2.2=false)(i:(aC a.z2).2.2=false):QO b a k=Fi b a k:=by
 have f:∀(c:Fin 6) d e,(aC c).2.2=false->gU c d e=fE c false d e:=λc d e g=>by
  unfold gU fE;rw[g]
 unfold QO Fi GB;simp only[f _ _ _ h,f _ _ _ i]
noncomputable def fD.md(a:fD):MD:=⟨a.q.pl,a.q.U5,a.q.Fp,a.p1,a.Vf,a.p2,a.Vd,λb=>match b with|0=>a.t 0|1=>a.t 1|2=>a.t 2|3=>a.t 3|4=>a.t 4|5=>a.t 5|6=>a.t 6|7=>a.t 7|8=>a.q.tn|9=>a.te|10=>a.ts|_=>a.q.tm,a.cX⟩
noncomputable def uX(b c:cl):U:=λa e d=>fh "bytes.__ne__" [.bytes b (tk a 0),.bytes c (tk a 1)] [] λω=>.bool false
noncomputable def TO:Nat:=0x1110dd002f010dd10dd10ed0ed0ed010ed10ed0fd0fd0fd010fd10fd01110d10d10d0110d110d11d11d11d0111d111d010100f130110123
theorem Fj(k:∀f:nZ,f.T=a.tree->f.msg=a.body->f.ss=b.q.ss->f.place=b.q.place->f.XS=b.q.XS->OK u (n2 (Pm u) f a.ps M c v d L D))(l:OK u (Fi b.md (v1 a e V) b.W)):aI u (λu=>qx (Pm u) b a e V 0 false false M c v d L D):=by
 have j:aw u (λu=>[λh g i=>Fi b.md (v1 a e V) b.W,uX b.W b.W,λh g i=>n2 (Pm u) (Wu b a g) a.ps M c v d L D]):=⟨λh g i=>l,λh g i=>kd (by simp),λh g i=>k _ rfl rfl rfl rfl rfl,cg⟩
 clear k l;cases e with
 |none=>cases V with
  |none=>exact bT TO [[8,13,14,15,16,17],[],[0,1,2,3,4,5,6,7,8,9,10,11]] [17,16,15,14,13,12,11,10,9,8,7,6,5,4,3,2,1,0] (aE [9,17,25,33,41]) j (J:=[[],[],[.UO 0]])
  |some m=>exact bT TO [[8,13,14,15,16,17],[],[0,1,2,3,4,5,6,7,8,9,10,11]] [17,16,15,14,13,12,11,10,9,8,7,6,5,4,3,2,1,0] (aE [9,17,25,33,41]) j (J:=[[],[],[.UO 0]])
 |some n=>cases V with
  |none=>exact bT TO [[8,13,14,15,16,17],[],[0,1,2,3,4,5,6,7,8,9,10,11]] [17,16,15,14,13,12,11,10,9,8,7,6,5,4,3,2,1,0] (aE [9,17,25,33,41]) j (J:=[[],[],[.UO 0]])
  |some m=>exact bT TO [[8,13,14,15,16,17],[],[0,1,2,3,4,5,6,7,8,9,10,11]] [17,16,15,14,13,12,11,10,9,8,7,6,5,4,3,2,1,0] (aE [9,17,25,33,41]) j (J:=[[],[],[.UO 0]])
end
noncomputable def hO:cl:= #[111,116,104,101,114]
noncomputable def vO(a:SD):SD:=⟨a.i1,a.j1,a.z1,a.i2,a.j2,a.z2,a.tree,a.ps,a.en,a.xs,a.sg,hO⟩
structure sI where
 y:fD
 (rc rd Wb Vv:Nat)
 bs:Wy cl
 Fb:AL
 rx:CM
 rks:AL
 tp:SA
 tch:Wz
noncomputable def sI.DD(a:sI)(b:WC):gi:=o9 0 b {a.rx with U8:=false,U4:= .ref a.Wb} a.rks
noncomputable def sI.vv(b:sI)(a:SD):Nat->Wz:=λd=>match d with
 |11=>.ref b.rc
 |13=>.ref b.tp.c
 |e=>b.y.vv a a.en a.sg e
noncomputable def PH(b:WC)(a:sI)(c:SD):Wy (Nat×gi):=[(a.rc,eu 888 a.rd),(a.rd,a.DD b),(a.Wb,cp a.bs a.Fb a.Vv)]
noncomputable def Fk(c:WC)(a:sI)(b:SD)(i:Nat)(k l:Bool)(m:Wy dh)(n:Wy Ev)(f:Nat)(e:Wz)(j:Nat)(h:ui)(g:Bool):Spec:=
 ⟨mz 24 a.y.q.x,284,some a.y.q.x.L,⟨⟨a.y.q.x.L,gx c a.y.q.ks (a.vv b) 14,true⟩::pl (uV c (a.y.q2 b) b.ps f e j h++xZ a.y b i k l++PH c a b++a.tp.cells c (vO b) 0 .none a.tch true),[],λd ω=>(gx c (gH a.y.q.ks 14 (d 0)) (lS (a.vv b) 14 (.bool g)) 15::(jK c (a.y.q2 b) b.ps f e j h g d).tail)++(xZ a.y b i k l).map (·.2)++[eu 888 a.rd,a.DD c,cp a.bs a.Fb a.Vv]++a.tp.objs c (vO b) 0 .none (.ref (d 5)) false,nn,nn,nn,[⟨a.y.q.XS,m⟩,a.tp.UO (vO b)],nn⟩,λω ω=>uj (.bool true)⟩
noncomputable def TR(c:sI)(g:SD)(f:uk):fD:=let e:=f[0]?.getD default
 ⟨⟨c.y.q.x,λd=>dN e d,λd=>aA e d,g.tree,df (aA e 1),c.y.q.pl,c.y.q.U5,c.y.q.Fp,g.body,df (n1 (f[2]?.getD default)),c.y.q.ss,c.y.q.place,c.y.q.t1,c.y.q.rl,c.y.q.Vk,c.y.q.XS⟩,c.y.ml,c.y.VF,c.y.a,c.y.b,c.y.p1,c.y.Vf,c.y.p2,c.y.Vd,c.y.t,c.y.te,c.y.ts,c.y.tw,c.y.cX,c.y.W⟩
theorem Jo{a:sI}{b:SD}{g:Bool}{c:Wy Ev}(m:s3 a.bs a.y.W)(n:mr (vO b) c)(o:s3 (h9 c hO) (cz M hO))(p:∀s,OK u (eN a.y.q.rl a.y.q.Vk a.y.q.XS M hO s))
 (l:∀k:fD,k.q.ss=a.y.q.ss->k.q.place=a.y.q.place->k.q.XS=a.y.q.XS->k.W=a.y.W->OK u (qx (Pm u) k b b.en b.sg e G g M d v f L D)):aI u (λu=>Fk (Pm u) a b e G g M c d v f L D):=by
 have r:aw u (λu=>[λh i j=>OI (Pm u) a.rc a.rd a.Wb a.Vv (a.DD (Pm u)) a.bs a.Fb a.y.W,uX a.y.W a.y.W,λh i j=>Es (Pm u) 0 a.tp (vO b) .none a.tch a.y.cX c (cz M hO),λh i j=>eN a.y.q.rl a.y.q.Vk a.y.q.XS M hO (tk h 1),uX (cz M hO) (cz M hO),Pu b.ps (λω=>a.tp.F) (λω=>a.y.q.Fp),λh i j=>qx (Pm u) (TR a b i) b b.en b.sg e G g M d v f L D]):=⟨λh i j=>wa m (by decide),λh i j=>kd (by simp),λh i j=>A0 n (by decide) o,λh i j=>p _,λh i j=>kd (by simp),E0,λh i j=>l _ rfl rfl rfl rfl,cg⟩
 clear m n o p l;exact jT 0x101805f13d21cf13d14d01101201805f16d213f16d17d01020101212307f117d600f010110df1101407f0118d0000018d18d019d319da3 [[18,19,20],[],[21,22,23,24,17],[8],[],[25,10],[2,3,4,5,6,7,8,9,10,11,12,13,14,15,16,17,18,19]] [24,23,22,21,20,19,18,17,16,15,14,13,12,11,10,9,8,7,6,5,4,3,2,1,0] (aE [231,359,487,615,743,11]) r (J:=[[],[],[.UO 1],[.UO 0],[],[],[.UO 0]]) (Q:=trivial) (H:=by kernel_rfl) (hc:=by first|exact⟨_,_,_,rfl,.inl ⟨_,rfl⟩⟩|exact⟨_,_,_,rfl,.inr rfl⟩)
noncomputable def uY(b:Fin 3)(c:Fin 4)(a:Fin 6):yf:=⟨dv b,some (dt.getD c.val 0),some (aC a).2.1,(aC a).2.2⟩
noncomputable def GC(a:SD)(c:cl)(b:eY)(d:Wy dm):Rd:=⟨c,⟨b.line,b.n,b.rb,b.UP,b.np,b.lp,a.tree⟩,d,a.body,dk a.i1 a.j1 a.z1,dk a.i2 a.j2 a.z2,a.ps,a.en,a.xs,uY a.i1 a.j1 a.z1,uY a.i2 a.j2 a.z2⟩
noncomputable def Fl(c:WC)(a:sI)(b:SD)(i:Nat)(k l:Bool)(m:Wy dh)(f:Nat)(e:Wz)(j:Nat)(h:ui)(g:Bool):Spec:=
 ⟨mz 21 a.y.q.x,285,some a.y.q.x.L,⟨⟨a.y.q.x.L,gx c a.y.q.ks (a.vv b) 13,true⟩::pl (uV c (a.y.q2 b) b.ps f e j h++xZ a.y b i k l++PH c a b),[],λd ω=>(gx c (gH (gH a.y.q.ks 13 (d 0)) 14 (d 2)) (lS (lS (a.vv b) 13 (.ref (d 1))) 14 (.bool g)) 15::(jK c (a.y.q2 b) b.ps f e j h g (cn 2 d)).tail)++(xZ a.y b i k l).map (·.2)++[eu 888 a.rd,a.DD c,cp a.bs a.Fb a.Vv],nn,nn,nn,[⟨a.y.q.XS,m⟩],nn⟩,λω ω=>uj (.bool true)⟩
noncomputable def Un(b:sI)(f:SD)(e:uk)(a:AL):sI:=let d:=e[22]?.getD default
 ⟨TR b f e,b.rc,b.rd,b.Wb,b.Vv,b.bs,b.Fb,b.rx,b.rks,⟨a 0,a 1,a 3,a 6,f.ps.length,a 20,a 18,a 19,zq (a 15) (a 16) (a 17),λc=>dN d c,λc=>match c with|0=>a 4|1=>a 5|2=>a 7|3=>df (aA d 11)|4=>a 9|5=>a 10|6=>a 11|7=>a 12|8=>a 13|_=>a 14⟩,.ref (a 2)⟩
theorem Jp{a:sI}{b:SD}{g:Bool}{d:eY}{ds:Wy dm}{Vp:Wy Ev}(m:OK u (R4 (Pm u) a.rc a.rd a.Wb a.Vv (a.DD (Pm u)) a.bs a.Fb (GC b a.y.W d ds) b.sg c e v L))
 (l:∀h:sI,h.y.q.ss=a.y.q.ss->h.y.q.place=a.y.q.place->h.y.q.XS=a.y.q.XS->h.y.W=a.y.W->h.bs=a.bs->OK u (Fk (Pm u) h b f G g M Vp c v e L D)):aI u (λu=>Fl (Pm u) a b f G g M c v e L D):=by
 have n:aw u (λu=>[λk j i=>R4 (Pm u) a.rc a.rd a.Wb a.Vv (a.DD (Pm u)) a.bs a.Fb (GC b a.y.W d ds) b.sg c e v L,uX b.body b.body,λk j i=>Fk (Pm u) (Un a b j (cH i 1)) b f G g M Vp c v e L D]):=⟨λk j i=>m,λk j i=>kd (by simp),λk j i=>l _ rfl rfl rfl rfl rfl,cg⟩
 clear m l;exact bT 0x111805f13d20ef13d14d016616307f1247f939f13cf01617f0000220390121740cf201202317f0120ff1111011f19f219f0120cf0130130300000304443 [[18,19,20,9,10],[],[7,8,9,10,11,12,13,14,15,16,17,18,19,20,21,22,23,24,25,26,27,2,3,5,6]] [20,19,18,17,16,15,14,13,12,11,10,9,8,7,6,5,4,3,2,1,0] (aE [1,0,51,59,67,75,83]) n (J:=[[],[],[.UO 1,.UO 0]])
structure Jq where
 y:fD
 rp:SA
 ch:Wz
 Ba:cl
 tb:Nat
noncomputable def Jq.vv(a:Jq)(b:SD):Nat->Wz:=λd=>match d with
 |9=>.bytes a.Ba a.tb
 |11=>.ref a.rp.c
 |e=>a.y.vv b b.en b.sg e
noncomputable def x0(c:fD)(d:SD)(e:Nat)(f g:Bool):Wy (Nat×gi):=[(c.ml,cm (ei e c.a c.b) c.VF),(c.p1,dJ d.i1 d.j1 c.Vf (c.t 0) (c.t 1)),(c.Vf,fE d.z1 f (c.t 2) (c.t 3)),(c.p2,dJ d.i2 d.j2 c.Vd (c.t 4) (c.t 5)),(c.Vd,fE d.z2 g (c.t 6) (c.t 7)),(693,aT)]
noncomputable def GD(e:SA)(g:Nat):SA:=⟨e.c,e.d,e.lp,e.le,e.ep,e.VC,e.a,e.b,e.F,e.ks,λf=>match f with|0=>e.t 0|1=>e.t 1|2=>e.t 2|3=>g|4=>e.t 4|5=>e.t 5|6=>e.t 6|7=>e.t 7|8=>e.t 8|_=>e.t 9⟩
noncomputable def BD(d:WC)(a:Jq)(c:SD)(j:Nat)(l m:Bool)(n:Wy dh)(g:Nat)(f:Wz)(k:Nat)(i:ui)(h:Bool):Spec:=
 ⟨mz 19 a.y.q.x,286,some a.y.q.x.L,⟨⟨a.y.q.x.L,gx d a.y.q.ks (a.vv c) 13,true⟩::pl (uV d (a.y.q2 c) c.ps g f k i++x0 a.y c j l m++a.rp.cells d c 0 .none a.ch false),[],λe ω=>(gx d (gH (gH a.y.q.ks 13 (e 0)) 14 (e 2)) (lS (lS (a.vv c) 13 (.ref (e 1))) 14 (.bool h)) 15::(jK d (a.y.q2 c) c.ps g f k i h (cn 2 e)).tail)++[cm (ei j a.y.a a.y.b) a.y.VF,dJ c.i1 c.j1 a.y.Vf (a.y.t 0) (a.y.t 1),fE c.z1 l (a.y.t 2) (a.y.t 3),dJ c.i2 c.j2 a.y.Vd (a.y.t 4) (a.y.t 5),fE c.z2 m (a.y.t 6) (a.y.t 7),fG (e 7)]++(GD a.rp a.y.q.tm).objs d c 0 .none (.ref (e 8)) false,nn,nn,nn,[⟨a.y.q.XS,n⟩,a.rp.UO c],nn⟩,λω ω=>uj (.bool true)⟩
noncomputable def Sn(c:WC)(b:SA)(d:SD)(a:Nat):gi:=o9 0 c {b.xx d .none (.ref a) false with U8:=false,U4:= .ref a} b.ks
noncomputable def So(a:SA)(b:SD)(f:Wy Ev)(e:AL):CQ:=⟨a.c,a.d,e 1,a.lp,bX b.body 2 f,a.ep,h9 f b.body,jH 10 JX e,a.F,a.ks,λg=>match g with|0=>a.t 2|1=>a.t 4|2=>a.t 7|3=>a.t 5|_=>a.t 8,a.xx b .none (.ref (e 1)) false,b.tree,dv b.i1,dv b.i2⟩
noncomputable def Uo(e:Jq)(f:SD)(j:Wy Ev)(k:uk)(g:AL):sI:=let i:=k[0]?.getD default
 ⟨⟨⟨e.y.q.x,λh=>dN i h,λh=>aA i h,f.tree,df (aA i 1),e.y.q.pl,e.y.q.U5,e.y.q.Fp,f.body,df (n1 (k[2]?.getD default)),e.y.q.ss,e.y.q.place,e.y.q.t1,e.y.q.rl,e.y.q.Vk,e.y.q.XS⟩,e.y.ml,e.y.VF,e.y.a,e.y.b,e.y.p1,e.y.Vf,e.y.p2,e.y.Vd,e.y.t,e.y.te,e.y.ts,e.y.tw,g 2,e.y.W⟩,e.rp.c,e.rp.d,g 1,bX f.body 2 j,h9 j f.body,jH 10 JX g,(GD e.rp e.y.q.tm).xx f .none (.ref (g 1)) false,e.rp.ks,⟨0,0,0,0,0,0,0,0,λω=>0,λω=>0,λω=>0⟩,.none⟩
theorem Jr{a:Jq}{b:SD}{h:Bool}{c:Wy Ev}{ze:WE}(p:mr b c)(n:s3 (h9 c b.body) a.y.W)(q:k7 a.y.W a.Ba ze)
 (r:∀m:CQ,m.bs=h9 c b.body->m.T=b.tree->m.A=dv b.i1->m.C=dv b.i2->OK u (ED (Pm u) m b.ps (dt.getD b.j1.val 0) (dt.getD b.j2.val 0) e v f L))
 (o:∀l:sI,l.y.q.ss=a.y.q.ss->l.y.q.place=a.y.q.place->l.y.q.XS=a.y.q.XS->l.y.W=a.y.W->l.bs=h9 c b.body->OK u (Fl (Pm u) l b g G h M e v f L D)):aI u (λu=>BD (Pm u) a b g G h M e v f L D):=by
 have s:aw u (λu=>[λk j i=>OJ (Pm u) 0 (GD a.rp a.y.q.tm) b .none a.ch c a.y.W,uX a.y.W a.y.W,λk j i=>TA (Pm u) (GD a.rp a.y.q.tm).c (GD a.rp a.y.q.tm).d (cH i 1 1) (bX b.body 2 c) (Sn (Pm u) (GD a.rp a.y.q.tm) b (cH i 1 1)) (h9 c b.body) (jH 10 JX (cH i 1)) a.Ba,uX a.Ba a.Ba,λk j i=>ED (Pm u) (So (GD a.rp a.y.q.tm) b c (cH i 3)) b.ps (dt.getD b.j1.val 0) (dt.getD b.j2.val 0) e v f L,λk j i=>Fl (Pm u) (Uo a b c j (cH i 4)) b g G h M e v f L D]):=⟨λk j i=>IC p (by decide) n,λk j i=>kd (by simp),λk j i=>OU n q,λk j i=>kd (by simp),λk j i=>r _ rfl rfl rfl rfl,λk j i=>o _ rfl rfl rfl rfl rfl,cg⟩
 clear p n q r o;exact bT 0x113140cf13d0113d013d317f0120ff1111011f19f219f0120cf002f114d512f15d15d15d12805f14d100f014d15df19f519f40124705f016d000016d17d013 [[19,20,21,22,18],[],[21,22,0],[],[21,22,0,23,12,13],[3,4,5,6,7,8,9,10,11,12,13,14,15,16,17,18,19,20,21,22,0]] [21,20,19,18,17,16,15,14,13,12,11,10,9,8,7,6,5,4,3,2,1,0] (aE [39,103,167,231,295,359,423,12,10]) s (J:=[[.UO 1],[],[],[],[],[.UO 0]])
section
noncomputable def Js(d e:ui)(c:Wy (Nat×gi)):U:=λa b f=>Ps "list.__ne__" [.ref (ad a 0),.ref (ad a 1)] ((ad a 0,cm d.toArray (eJ b 0))::(ad a 1,cm e.toArray (eJ b 1))::c) (.bool false)
variable {a:Wy (Nat×gi)}
theorem wv{b:ui}(f:fa a L b):∀c e d,OK u (Js L b a c e d):=λc e d=>ws f
theorem sJ(b:cl)(c d:Nat):ju a (.bytes b c) (.bytes b d):= .plain (Eqv.bytes (by simp))
theorem GF(b:WA cl)(c d:Nat):ju a (iX b c) (iX b d):=match b with
 |none=>.plain Eqv.none
 |some e=>sJ e c d
structure s4 where
 y:fD
 rp:SA
 (cA tc Va:Nat)
 Ba:cl
 tb:Nat
noncomputable def s4.zz(a:s4):Jq:=⟨a.y,a.rp,.ref a.cA,a.Ba,a.tb⟩
noncomputable def v2(a:SD)(b c:WA cl):SD:=⟨a.i1,a.j1,a.z1,a.i2,a.j2,a.z2,a.tree,a.ps,b,a.xs,c,a.body⟩
noncomputable def ww(e:WC)(a:s4)(c:SD)(j:Nat)(l m:Bool)(h:Nat)(g:Wz)(k:Nat)(i:ui)(f:Bool)(d:AL):uk:=(gx e (gH (gH a.y.q.ks 13 (d 0)) 14 (d 2)) (lS (lS (a.zz.vv c) 13 (.ref (d 1))) 14 (.bool f)) 15::(jK e (a.y.q2 c) c.ps h g k i f (cn 2 d)).tail)++[cm (ei j a.y.a a.y.b) a.y.VF,dJ c.i1 c.j1 a.y.Vf (a.y.t 0) (a.y.t 1),fE c.z1 l (a.y.t 2) (a.y.t 3),dJ c.i2 c.j2 a.y.Vd (a.y.t 4) (a.y.t 5),fE c.z2 m (a.y.t 6) (a.y.t 7),fG (d 7)]++(GD a.rp a.y.q.tm).objs e c 0 .none (.ref (d 8)) false++[cp [a.y.W] (λω=>a.tc) a.Va]
noncomputable def Fn(c:WC)(a:s4)(b:SD)(g:Nat)(i j:Bool)(k:Wy dh)(e:Nat)(d:Wz)(h:Nat)(f:ui)(m:Bool):Spec:=
 ⟨mz 18 a.y.q.x,287,some a.y.q.x.L,⟨⟨a.y.q.x.L,gx c a.y.q.ks (a.zz.vv b) 13,true⟩::pl (uV c (a.y.q2 b) b.ps e d h f++x0 a.y b g i j++a.rp.cells c b 0 .none (.ref a.cA) false++[(a.cA,cp [a.y.W] (λω=>a.tc) a.Va)]),[],λl ω=>ww c a b g i j e d h f m l,nn,nn,nn,[⟨a.y.q.XS,k⟩,a.rp.UO b],nn⟩,λω ω=>uj (.bool true)⟩
noncomputable def TP:Nat:=0x11407f113df34f234fa12f14d14d015d2307f114df34f234fa12f15d15d016d3307f115d600f010110df1101407f0116d112f16d16d017d055701006805f18d100f018d19d0160123
noncomputable def QT:uh:=[24,40,56,72,88,104,120,136,152]
theorem Jt{b:s4}{a:SD}{g:Bool}(m:s3 [b.y.W] b.y.W)
 (l:OK u (BD (Pm u) b.zz a e G g M c v f L D)):OK u (Fn (Pm u) b a e G g M c v f L D):=by
 have n:fa [] [iX a.en (b.rp.t 0),iX a.sg (b.rp.t 1),.bytes a.body (b.rp.t 3)] [iX a.en b.y.te,iX a.sg b.y.ts,.bytes a.body b.y.q.tm]:=⟨GF _ _ _,GF _ _ _,sJ _ _ _,cg⟩;have j:aw u (λu=>[Js [iX (v2 a a.en a.sg).en (b.rp.t 0),iX (v2 a a.en a.sg).sg (b.rp.t 1),.bytes (v2 a a.en a.sg).body (b.rp.t 3)] [iX (v2 a a.en a.sg).en b.y.te,iX (v2 a a.en a.sg).sg b.y.ts,.bytes (v2 a a.en a.sg).body b.y.q.tm] [],λh k i=>OI (Pm u) b.rp.c b.rp.d b.cA b.Va (o9 0 (Pm u) {b.rp.xx (v2 a a.en a.sg) .none (.ref b.cA) false with U8:=false,U4:= .ref b.cA} b.rp.ks) [b.y.W] (λω=>b.tc) b.y.W,uX b.y.W b.y.W,λh k i=>BD (Pm u) b.zz (v2 a a.en a.sg) e G g M c v f L D]):=⟨wv n,λh k i=>wa m (by decide),λh k i=>kd (by simp),λh k i=>l,cg⟩
 clear m l n;refine(?_:aI u (λu=>Fn (Pm u) b (v2 a a.en a.sg) e G g M c v f L D))
 generalize a.en=p,a.sg=o at*;cases p with
 |none=>cases o with
  |none=>exact jT TP [[1,0],[23,24,27],[],[5,6,7,8,9,10,11,12,13,14,15,16,17,18,19,20,21,22,23,24,25,26]] [22,21,20,19,18,17,16,15,14,13,12,11,10,9,8,7,6,5,4,3,2,1,0] (aE QT) j (J:=[[],[],[],[.UO 0,.UO 1]]) (Q:=trivial) (H:=by kernel_rfl) (hc:=by first|exact⟨_,_,_,rfl,.inl ⟨_,rfl⟩⟩|exact⟨_,_,_,rfl,.inr rfl⟩)
  |some r=>exact jT TP [[1,0],[23,24,27],[],[5,6,7,8,9,10,11,12,13,14,15,16,17,18,19,20,21,22,23,24,25,26]] [22,21,20,19,18,17,16,15,14,13,12,11,10,9,8,7,6,5,4,3,2,1,0] (aE QT) j (J:=[[],[],[],[.UO 0,.UO 1]]) (Q:=trivial) (H:=by kernel_rfl) (hc:=by first|exact⟨_,_,_,rfl,.inl ⟨_,rfl⟩⟩|exact⟨_,_,_,rfl,.inr rfl⟩)
 |some s=>cases o with
  |none=>exact jT TP [[1,0],[23,24,27],[],[5,6,7,8,9,10,11,12,13,14,15,16,17,18,19,20,21,22,23,24,25,26]] [22,21,20,19,18,17,16,15,14,13,12,11,10,9,8,7,6,5,4,3,2,1,0] (aE QT) j (J:=[[],[],[],[.UO 0,.UO 1]]) (Q:=trivial) (H:=by kernel_rfl) (hc:=by first|exact⟨_,_,_,rfl,.inl ⟨_,rfl⟩⟩|exact⟨_,_,_,rfl,.inr rfl⟩)
  |some r=>exact jT TP [[1,0],[23,24,27],[],[5,6,7,8,9,10,11,12,13,14,15,16,17,18,19,20,21,22,23,24,25,26]] [22,21,20,19,18,17,16,15,14,13,12,11,10,9,8,7,6,5,4,3,2,1,0] (aE QT) j (J:=[[],[],[],[.UO 0,.UO 1]]) (Q:=trivial) (H:=by kernel_rfl) (hc:=by first|exact⟨_,_,_,rfl,.inl ⟨_,rfl⟩⟩|exact⟨_,_,_,rfl,.inr rfl⟩)
end
theorem wx{a:Wy (Nat×gi)}(b:Int)(c d:Nat):ju a (.int b c) (.int b d):= .plain (Eqv.int (by simp))
noncomputable def nZ.tl(a:nZ)(b:Nat):nZ:=⟨a.x,a.ks,lS a.V 12 (.ref b),a.T,a.tn,a.pl,a.U5,a.Fp,a.msg,a.tm,a.ss,a.place,a.t1,a.rl,a.Vk,a.XS⟩
noncomputable def fD.tl(c:fD)(d:Nat):fD:=⟨c.q.tl d,c.ml,c.VF,c.a,c.b,c.p1,c.Vf,c.p2,c.Vd,c.t,c.te,c.ts,c.tw,c.cX,c.W⟩
noncomputable def s4.tl(a:s4)(b:Nat):s4:=⟨a.y.tl b,a.rp,a.cA,a.tc,a.Va,a.Ba,a.tb⟩
noncomputable def wy(a:s4)(b:SD):ui:=[.bytes b.tree (a.rp.t 2),.ref a.rp.lp,.bytes (dv b.i1) (a.rp.t 4),.int (dt.getD b.j1.val 0) (a.rp.t 5),.int (aC b.z1).2.1 (a.rp.t 6),.bytes (dv b.i2) (a.rp.t 7),.int (dt.getD b.j2.val 0) (a.rp.t 8),.int (aC b.z2).2.1 (a.rp.t 9)]
noncomputable def GG(a:s4)(b:SD):ui:=[.bytes b.tree a.y.q.tn,.ref a.y.q.pl,.bytes (dv b.i1) (a.y.t 0),.int (dt.getD b.j1.val 0) (a.y.t 1),.int (aC b.z1).2.1 (a.y.t 3),.bytes (dv b.i2) (a.y.t 4),.int (dt.getD b.j2.val 0) (a.y.t 5),.int (aC b.z2).2.1 (a.y.t 7)]
noncomputable def BG(c:WC)(a:s4)(d g:Nat)(b:SD)(i:Nat)(k l:Bool)(m:Wy dh)(f:Nat)(e:Wz)(j:Nat)(h:ui)(o:Bool):Spec:=
 ⟨mz 17 a.y.q.x,288,some a.y.q.x.L,⟨⟨a.y.q.x.L,gx c a.y.q.ks ((a.tl d).zz.vv b) 13,true⟩::pl (uV c (a.y.q2 b) b.ps f e j h++x0 a.y b i k l++a.rp.cells c b 0 .none (.ref a.cA) false++[(a.cA,cp [a.y.W] (λω=>a.tc) a.Va),(d,cm (wy a b).toArray g)]),[],λn ω=>ww c (a.tl d) b i k l f e j h o n++[cm (wy a b).toArray g],nn,nn,nn,[⟨a.y.q.XS,m⟩,a.rp.UO b],nn⟩,λω ω=>uj (.bool true)⟩
theorem Ju{a:s4}{b:SD}{g:Bool}
 (i:OK u (Fn (Pm u) (a.tl e) b d G g M c v f L D)):aI u (λu=>BG (Pm u) a e h b d G g M c v f L D):=by
 have j:fa [(a.rp.lp,cp b.ps a.rp.F a.rp.ep),(a.y.q.pl,cp b.ps a.y.q.Fp a.y.q.U5)] (wy a b) (GG a b):=⟨sJ _ _ _,.lists (.head _) (.tail _ (.head _)),sJ _ _ _,wx _ _ _,wx _ _ _,sJ _ _ _,wx _ _ _,wx _ _ _,cg⟩;have m:aw u (λu=>[Js (wy a b) (GG a b) [(a.rp.lp,cp b.ps a.rp.F a.rp.ep),(a.y.q.pl,cp b.ps a.y.q.Fp a.y.q.U5)],λk n l=>Fn (Pm u) (a.tl e) b d G g M c v f L D]):=⟨wv j,λk n l=>i,cg⟩
 clear i j;exact jT 0x11111e08f10ed0ed0ed010ed10ed0fd0fd0fd010fd10fd01e08f110d10d10d0110d110d11d11d11d0111d111d01018d03 [[24,0,21,9],[1,2,3,4,5,6,7,8,9,10,11,12,13,14,15,16,17,18,19,20,21,22,23]] [23,22,21,20,19,18,17,16,15,14,13,12,11,10,9,8,7,6,5,4,3,2,1,0] (aE [10,14,18,22,26,30,34,38,42]) m (J:=[[],[.UO 0,.UO 1]]) (Q:=trivial) (H:=by kernel_rfl) (hc:=by first|exact⟨_,_,_,rfl,.inl ⟨_,rfl⟩⟩|exact⟨_,_,_,rfl,.inr rfl⟩)
noncomputable def v3(a:SD)(b:WA cl):SD:=⟨a.i1,a.j1,a.z1,a.i2,a.j2,a.z2,a.tree,a.ps,a.en,a.xs,b,a.body⟩
noncomputable def uZ(c b:Nat)(a:ug)(d:Wy dh)(g:cl)(h:Nat)(e:cl):Spec:=
 ⟨ul 949 [.ref c,.bytes g h],60,none,⟨pl [(c,cm a b)],[],λω ω=>[cm a b],nn,nn,nn,[⟨a,d⟩],nn⟩,λf ω=>uj (.bytes e (f 0))⟩
theorem k9(b:cz M k=l)(e:OK u (eN c a H M k d)):OK u (uZ c a H M k d l):=by subst b;exact e
noncomputable def PI(c:WC)(a:nZ)(b:Wy cl):Wy (Nat×gi):=[(a.x.cS,dP (.ref a.ss.st)),(a.x.cM,dP (.bytes a.msg a.tm)),(a.x.cO,j3),(a.x.cW,j3),(a.ss.st,a.ss.oo a.place a.t1),(a.ss.sc,cm a.ss.vs a.ss.Vc),(a.rl,cm a.XS a.Vk),(a.pl,cp b a.Fp a.U5),(393,aT),(972,aT)]
noncomputable def PJ(f:fD)(a:SD)(b:cl)(e:Nat):Nat->Wz:=λc=>match c with
 |9=>.bytes b e
 |d=>f.vv a a.en a.sg d
noncomputable def Fo(b:AL)(a:AL):AL:=gH (gH (gH (gH (gH b 10 (a 9)) 11 (a 11)) 12 (a 13)) 13 (a 0)) 14 (a 2)
noncomputable def Fq(b:Nat->Wz)(c:cl)(d:Bool)(a:AL):Nat->Wz:=lS (lS (lS (lS (lS b 10 (.bytes c (a 10))) 11 (.ref (a 12))) 12 (.ref (a 14))) 13 (.ref (a 1))) 14 (.bool d)
noncomputable def GH(l:WC)(c:fD)(d:SD)(g:ug)(h i:Nat)(j k:Bool)(f:Bool)(e:AL):uk:=[dP (.ref c.q.ss.st),dP (.bytes d.body c.q.tm),QN f (e 3),dP (.ref (e 4)),c.q.ss.oo (c.q.place+1) (e 5),cm c.q.ss.vs c.q.ss.Vc,cm g h,cp d.ps c.q.Fp c.q.U5,ee (e 15),uW f (e 6),cm (ei i c.a c.b) c.VF,dJ d.i1 d.j1 c.Vf (c.t 0) (c.t 1),fE d.z1 j (c.t 2) (c.t 3),dJ d.i2 d.j2 c.Vd (c.t 4) (c.t 5),fE d.z2 k (c.t 6) (c.t 7),fG (e 7)]
noncomputable def u0(c:WC)(a:fD)(e:cl)(h:Nat)(b:SD)(g:Nat)(i j:Bool)(k:Wy dh)(f:Bool)(l:AL->ug)(m:Nat):Spec:=
 ⟨mz 13 a.q.x,289,some a.q.x.L,⟨⟨a.q.x.L,gx c a.q.ks (PJ a b e h) 10,true⟩::pl (PI c (a.q2 b) b.ps++x0 a b g i j),[],λd ω=>gx c (Fo a.q.ks d) (Fq (PJ a b e h) a.W f d) 15::GH c a b (l d) (a.q.Vk+m) g i j f d,nn,nn,nn,[⟨a.q.XS,k⟩],nn⟩,λω ω=>uj (.bool true)⟩
noncomputable def Up(c:fD)(g:SD)(h:ug)(i:Nat)(f:uk):fD:=let d:=f[0]?.getD default
 ⟨⟨c.q.x,λe=>dN d e,λe=>aA d e,g.tree,df (aA d 1),c.q.pl,c.q.U5,c.q.Fp,g.body,df (n1 (f[2]?.getD default)),c.q.ss,c.q.place,c.q.t1,c.q.rl,c.q.Vk+i,h⟩,c.ml,c.VF,c.a,c.b,c.p1,c.Vf,c.p2,c.Vd,c.t,c.te,c.ts,df (aA d 10),0,c.W⟩
noncomputable def Uq(j:fD)(e:cl)(i:Nat)(d:SD)(f:ug)(g:Nat)(c:uk)(a:AL):s4:=let h:=c[19]?.getD default
 ⟨Up j d f g c,⟨a 0,a 1,a 3,a 6,d.ps.length,a 20,a 18,a 19,zq (a 15) (a 16) (a 17),λb=>dN h b,λb=>match b with|0=>a 4|1=>a 5|2=>a 7|3=>a 8|4=>a 9|5=>a 10|6=>a 11|7=>a 12|8=>a 13|_=>a 14⟩,a 2,df (aA (c[0]?.getD default) 10),0,e,i⟩
noncomputable def PK(i:WG)(d:fD)(j:cl)(o:Nat)(c:SD)(k:eY)(l:Wy dm)(n:Nat)(p r:Bool)(f:Wy dh)(m:Bool)(g:uk->ug)(h:Nat):Wy U:=
 [λe b a=>uZ d.q.rl (d.q.Vk+h) (g (b.drop 1)) f c.body (tk e 1) d.W,λe b a=>Dy i.params (GC c d.W k l) c.sg (tk e 1),λe b a=>BG i.params (Uq d j o c (g (b.drop 26)) h b (cH a 0)) (hu (aA (b[0]?.getD default) 12)) (eJ b 23) c n p r f (cH a 0 39) (jW (cH a 0 40)) (cH a 0 41) (iH (cH a 0 42) (cH a 0 43) (cH a 0 44) (cH a 0 45) (cH a 0 46) (cH a 0 47) (cH a 0 48) (cH a 0 49)) m]
theorem Jv{b:fD}{tb:Nat}{a:SD}{d:Bool}(n:b.q.XS.size=M.length)(p:b.q.XS.size<=1000000)(g:cz (d9 M a.sg (az .sig)) a.body=b.W)(f:∀s y I t,OK u (eN s y I (d9 M a.sg (az .sig)) a.body t))(m:∀t,OK u (Dy (Pm u) (GC a b.W P Q) a.sg t))
 (l:∀(h:s4) C z x v H s,h.y.q.ss=b.q.ss->h.y.q.place=b.q.place->h.y.q.XS.size=(d9 M a.sg (az .sig)).length->h.y.W=b.W->h.Ba=k->OK u (BG (Pm u) h C z a c G d (d9 M a.sg (az .sig)) x v H s D)):
  match a.sg with
  |none=>aI u (λu=>u0 (Pm u) b k tb (v3 a none) c G d M D (λω=>b.q.XS) 0)
  |some o=>aI u (λu=>u0 (Pm u) b k tb (v3 a (some o)) c G d M D (λw=>b.q.XS++ #[.ref (w 16)]) 1):=by
 have e0:a=v3 a a.sg:=rfl;rw[e0]at l f m g;clear e0;dsimp only[v3]at g f;generalize a.sg=A at*;cases A with
 |none=>
  have r:aw u (λu=>PK (W2 u) b k tb (v3 a none) P Q c G d M D (λω=>b.q.XS) 0):=⟨λi e j=>k9 g (f _ _ _ _),λi e j=>m _,λi e j=>l _ _ _ _ _ _ _ rfl rfl n rfl rfl,cg⟩
  clear n p g f m l;exact bT 0x1146f301111730f723f21001128818307f11f34f234fa12f22039307f12f34f234fa12f3304a307f13f34f234fa12f4405b307f14f34f234fa12f5506c307f15f34f234fa12f66070dd307f16f34f234fa12f77080ed307f17f34f234fa12f88090fd307f18600f010110df1101407f01900000990a011d11d3 [[7],[10],[16,17,18,19,20,21,22,23,24,25,14,26,27,28,29,30,31,32,9,10,12,13,11,0]] [16,15,14,13,12,11,10,9,8,7,6,5,4,3,2,1,0] (aE [181,189,197,205,213,221,229,237,0,1,0,9,7,177,173,163]) r (J:=[[.UO 0],[],[.UO 1,.UO 0]])
 |some o=>
  have r:aw u (λu=>mn b.q.XS::PK (W2 u) b k tb (v3 a (some o)) P Q c G d (M++[(az .sig,o)]) D (λe=>b.q.XS++ #[l8 e 0 1]) 1):=⟨fU p,λi e j=>k9 g (f _ _ _ _),λi e j=>m _,λi e j=>l _ _ _ _ _ _ _ rfl rfl (by refine(?_:(b.q.XS++ #[_]).size=(M++[_]).length);rw[Array.size_append,List.length_append,n];rfl) rfl rfl,cg⟩
  clear n p g f m l;exact bT 0x11118888100192102401221730f723f31001129919307f11f34f234fa12f2203a307f12f34f234fa12f3304b307f13f34f234fa12f4405c307f14f34f234fa12f55060dd307f15f34f234fa12f66070ed307f16f34f234fa12f77080fd307f17f34f234fa12f880910d307f18600f010110df1101407f01900000990a012d12d3 [[8],[8],[11],[17,18,19,20,21,22,23,24,25,26,14,27,28,29,30,31,32,33,9,10,12,13,11,0]] [16,15,14,13,12,11,10,9,8,7,6,5,4,3,2,1,0] (aE [365,381,397,413,429,445,461,477,0,5,3,21,17,357,349,329,1]) r (J:=[[],[.app (.UO 0) (.cells [0])],[],[.app (.UO 1) (.cells [16]),.UO 0]])
section
noncomputable def PL(c:WA cl)(a:ug)(b:AL):ug:=match c with
 |none=>a
 |some _=>a++ #[.ref (b 16)]
noncomputable def Cb(a:WA cl):Nat:=match a with
 |none=>0
 |some _=>1
variable {f:Bool} {c:SD} {e:fD}
theorem Fs{d:eY}{ds:Wy dm}(r:e.q.XS.size=M.length)(p:e.q.XS.size<=1000000)(o:cz (d9 M c.sg (az .sig)) c.body=e.W)(m:∀i v A j,OK u (eN i v A (d9 M c.sg (az .sig)) c.body j))(n:∀j,OK u (Dy (Pm u) (GC c e.W d ds) c.sg j))
 (l:∀(b:s4) y w t s z i,b.y.q.ss=e.q.ss->b.y.q.place=e.q.place->b.y.q.XS.size=(d9 M c.sg (az .sig)).length->b.y.W=e.W->b.Ba=k->OK u (BG (Pm u) b y w c a G f (d9 M c.sg (az .sig)) t s z i D)):
  OK u (u0 (Pm u) e k g c a G f M D (PL c.sg e.q.XS) (Cb c.sg)):=by
 have h:=Jv (tb:=g) r p o m n l;rw[show c=v3 c c.sg from rfl];dsimp only[v3]at h|-;clear r p o m n l;generalize c.sg=x at*;cases x with
 |none=>exact h
 |some C=>exact h
theorem x1{c:Nat}(b:a<=2):(ei a c d).size=a:=match a,b with
 |0,_=>rfl
 |1,_=>rfl
 |2,_=>rfl
noncomputable def v4(a:SD)(b:WA cl):SD:=⟨a.i1,a.j1,a.z1,a.i2,a.j2,a.z2,a.tree,a.ps,b,a.xs,a.sg,a.body⟩
noncomputable def u1(f:WC)(c:fD)(j:cl)(d:SD)(h i:Bool)(k:Wy dh)(g:Bool)(l:AL->ug)(m:Nat):Spec:=
 ⟨mz 10 c.q.x,290,some c.q.x.L,⟨⟨c.q.x.L,gx f c.q.ks (c.vv d d.en d.sg) 9,true⟩::pl (PI f (c.q2 d) d.ps++x0 c d d.xs.length h i),[],λe ω=>gx f (gH (Fo c.q.ks e) 9 (e 16)) (Fq (lS (lS (c.vv d d.en d.sg) 8 (.ref (e 17))) 9 (.bytes j (e 18))) c.W g e) 15::GH f c d (l e) (c.q.Vk+m) d.xs.length h i g e,nn,nn,nn,[⟨c.q.XS,k⟩,⟨ei d.xs.length c.a c.b,d.xs⟩],nn⟩,λω ω=>uj (.bool true)⟩
noncomputable def GI(c:uk->ug)(d:ug):U:=λb a e=>hn (ad b 0) (ad b 1) (c (a.drop 2)) d (eJ a 0) (eJ a 1)
theorem sK{a:uk->ug}(e:∀b,(a b).size<=1000)(f:H.size<=1000):∀c b d,OK u (GI a H c b d):=λc b d=>mL (by have:=e (b.drop 2);lia)
noncomputable def Ur(c:fD)(g:SD)(h:ug)(f:uk):fD:=let d:=f[0]?.getD default
 ⟨⟨c.q.x,λe=>dN d e,λe=>aA d e,g.tree,df (aA d 1),c.q.pl,c.q.U5,c.q.Fp,g.body,df (n1 (f[2]?.getD default)),c.q.ss,c.q.place,c.q.t1,hu (aA d 8),eJ f 7,h⟩,c.ml,c.VF,c.a,c.b,c.p1,c.Vf,c.p2,c.Vd,c.t,c.te,c.ts,0,0,c.W⟩
noncomputable def PN(m:WG)(h:fD)(i:cl)(d:SD)(n o:Bool)(j:Wy dh)(k:Bool)(f:uk->ug):Wy U:=
 let e:=ei d.xs.length h.a h.b
 [GI f e,λg c l=>uZ (ad g 0) (eJ c 0) (f (c.drop 2)++e) j d.body (tk g 1) i,λg c l=>u0 m.params (Ur h d (f (c.drop 19)++e) c) i (df (aA (c[0]?.getD default) 9)) d d.xs.length n o j k (PL d.sg (f (c.drop 19)++e)) (Cb d.sg)]
theorem Jw(n:e.q.XS.size=M.length)(t:e.q.XS.size<=900)(r:c.xs.length<=2)(g:cz (d9 M c.en (az .encoding)++c.xs) c.body=k)(d:∀y x C z,OK u (eN y x C (d9 M c.en (az .encoding)++c.xs) c.body z))
 (j:∀(i:fD) A,i.q.ss=e.q.ss->i.q.place=e.q.place->i.q.XS.size=(d9 M c.en (az .encoding)++c.xs).length->i.W=e.W->OK u (u0 (Pm u) i k A c c.xs.length G f (d9 M c.en (az .encoding)++c.xs) D (PL c.sg i.q.XS) (Cb c.sg))):
  match c.en with
  |none=>aI u (λu=>u1 (Pm u) e k (v4 c none) G f M D (λω=>e.q.XS) 0)
  |some m=>aI u (λu=>u1 (Pm u) e k (v4 c (some m)) G f M D (λv=>e.q.XS++ #[.ref (v 19)]) 1):=by
 have e0:c=v4 c c.en:=rfl;rw[e0]at j d g;clear e0;dsimp only[v4]at g d;have h:(ei c.xs.length e.a e.b).size=c.xs.length:=x1 r;generalize c.en=w at*;cases w with
 |none=>
  have s:aw u (λu=>PN (W2 u) e k (v4 c none) G f (M++c.xs) D (λω=>e.q.XS)):=⟨sK (λω=>by lia) (by refine(?_:(ei c.xs.length e.a e.b).size<=_);rw[h];lia),λo l p=>k9 g (d _ _ _ _),λo l p=>j _ _ rfl rfl (by refine(?_:(e.q.XS++ei c.xs.length e.a e.b).size=(M++c.xs).length);rw[Array.size_append,List.length_append,n,h]) rfl,cg⟩
  clear n t g d j r h;exact bT 0x1111118c8018222102401223 [[7,11],[0],[1,2,3,4,5,6,7,0,9,10,11,12,13,14,15,16,17]] [16,15,14,13,12,11,10,9,8,7,6,5,4,3,2,1,0] (aE [9,17,25,33,41,49,57,65,0,81,89,97,105,113,121,129,5,0,3]) s (J:=[[],[.app (.UO 0) (.UO 1)],[.app (.UO 0) (.UO 1)]])
 |some m=>
  have s:aw u (λu=>mn e.q.XS::PN (W2 u) e k (v4 c (some m)) G f ((M++[(az .encoding,m)])++c.xs) D (λl=>e.q.XS++ #[l8 l 0 1])):=⟨fU (by lia),sK (λω=>by rw[Array.size_append];refine(?_:e.q.XS.size+1<=_);lia) (by refine(?_:(ei c.xs.length e.a e.b).size<=_);rw[h];lia),λo l p=>k9 g (d _ _ _ _),λo l p=>j _ _ rfl rfl (by refine(?_:((e.q.XS++ #[_])++ei c.xs.length e.a e.b).size=((M++[_])++c.xs).length);rw[Array.size_append,Array.size_append,List.length_append,List.length_append,n,h];rfl) rfl,cg⟩
  clear n t g d j r h;exact bT 0x1111888810019212290dd9019233103501333 [[8],[8,12],[0],[2,3,4,5,6,7,8,0,10,11,12,13,14,15,16,17,18]] [16,15,14,13,12,11,10,9,8,7,6,5,4,3,2,1,0] (aE [21,37,53,69,85,101,117,133,0,165,181,197,213,229,245,261,13,3,9,1]) s (J:=[[],[],[.app (.app (.UO 0) (.cells [1])) (.UO 1)],[.app (.app (.UO 0) (.cells [1])) (.UO 1)]])
end
section
noncomputable def pC(b:uk)(a:Nat):ug:=match(b[a]?.getD default).data with
 | .seq c _=>c
 |_=> #[]
noncomputable def Jx:Wy (WA cl)->(Nat->Nat)->ui
 |[],_=>[]
 |b::c,a=>iX b (a 0)::Jx c (cy a)
theorem wz:∀(a:Wy (WA cl)) (c:Nat->Nat) (d:Nat),(Jx a c)[d]?=(a[d]?).map λb=>iX b (c d)
 |[],_,_=>by simp[Jx]
 |b::a,c,0=>by simp[Jx]
 |b::a,c,d+1=>by
  simp only[Jx,List.getElem?_cons_succ,wz a (cy c) d];rfl
noncomputable def BH(d:Wy (WA cl))(e:Nat)(f:WA cl):U:=λa b g=>fh "list.__getitem__" [.ref (ad a 0),.int (e:Nat) (tk a 1)] [(ad a 0,cm ⟨Jx d (iB b 0)⟩ (eJ b 0))] λc=>iX f (c 0)
noncomputable def GJ(d:Wy cl)(e:Nat)(f:cl):U:=λa b g=>fh "list.__getitem__" [.ref (ad a 0),.int (e:Nat) (tk a 1)] [(ad a 0,cm ⟨d3 d (iB b 0)⟩ (eJ b 0))] λc=>.bytes f (c 0)
theorem sL{b:Wy (WA cl)}{c:WA cl}(g:b[a]?=some c)(i:a<2^24)(j:b.length<2^24):∀e d f,OK u (BH b a c e d f):=λe d f=>by
 refine pO (dZ (v:=iX c (iB d 0 a)) (by lia) (by lia) ?_) λh=>⟨λω=>iB d 0 a,rfl⟩
 rw[Int.toNat_natCast];refine(?_:(Jx b (iB d 0)).toArray[a]?=_);rw[List.getElem?_toArray,wz,g];rfl
theorem BI{b:Wy cl}{c:cl}(g:b[a]?=some c)(i:a<2^24)(j:b.length<2^24):∀e d f,OK u (GJ b a c e d f):=λe d f=>by
 refine pO (dZ (v:= .bytes c (iB d 0 a)) (by lia) (by lia) ?_) λh=>⟨λω=>iB d 0 a,rfl⟩
 rw[Int.toNat_natCast];refine(?_:(d3 b (iB d 0)).toArray[a]?=_);rw[List.getElem?_toArray,kK,g];rfl
noncomputable def Ft:Wy (WA cl):=[none,some #[45,45,45,45,45,66,69,71,73,78,10,10,97,98,99,10,45,45,45,45,45,69,78,68],some #[120]]
noncomputable def sM:Wy cl:=[#[],#[116,101,120,116,10],#[10,116,114,101,101,32,49,50,10,10,112,97,114,101,110,116],#[103,112,103,115,105,103,32,120,10,32,121]]
noncomputable def qy(f d:Nat)(a:Fin 3)(b:Fin 4)(c:Fin 6)(e:Bool)(g h i j:Nat):Spec:=
 ⟨ul 944 [.ref f],30,none,UM [(f,dJ a b d g h),(d,fE c e i j)] (λω=>[dJ a b d g h,fE c e i j]) (λω=>[]),λk ω=>uj (.bytes (dk a b c) (k 0))⟩
theorem pk{b:Fin 3}{c:Fin 4}{a:Fin 6}(j:(aC a).2.2=D):OK u (qy d i b c a D e f g h):=by subst j;exact xh
noncomputable def BJ(f c:Nat)(a b:ug)(d e:Nat)(g h:Wy dh):Spec:=⟨(hn f c a b d e).code,(hn f c a b d e).dep,(hn f c a b d e).top,⟨(hn f c a b d e).UM.pre,(hn f c a b d e).UM.UR,(hn f c a b d e).UM.post,(hn f c a b d e).UM.UQ,(hn f c a b d e).UM.new,(hn f c a b d e).UM.UW,[⟨a,g⟩,⟨b,h⟩],(hn f c a b d e).UM.US⟩,(hn f c a b d e).res⟩
noncomputable def BK(c d:Wy dh):U:=λb a e=>BJ (ad b 0) (ad b 1) (pC a 0) (pC a 1) (eJ a 0) (eJ a 1) c d
theorem sN{a:Wy dh}(f:M.length+a.length<=1000000):∀c b d,OK u (BK M a c b d):=λc b d=>by
 refine(?_:ct _ _ _ (BJ _ _ _ _ _ _ _ _));refine ct.member (xs:=pC b 0) (rows:=M) (.head _) λg ω=> ?_
 refine ct.member (xs:=pC b 1) (rows:=a) (.tail _ (.head _)) λh ω=> ?_
 exact ct.more (bs:=[]) (mL (by lia)) λω ω ω e=>nomatch e
noncomputable def PO(c:WA cl)(a:ug)(b:AL):ug:=match c with
 |none=>a
 |some _=>a++ #[.ref (b 19)]
variable {c:Bool} {a:SD} {b:fD}
theorem Fu(n:M.length<=900)(i:a.xs.length<=2)(h:cz (d9 M a.en (az .encoding)++a.xs) a.body=k)(g:∀o m s p,OK u (eN o m s (d9 M a.en (az .encoding)++a.xs) a.body p))
 (f:∀(d:fD) r,d.q.ss=b.q.ss->d.q.place=b.q.place->d.q.XS.size=(d9 M a.en (az .encoding)++a.xs).length->d.W=b.W->OK u (u0 (Pm u) d k r a a.xs.length D G (d9 M a.en (az .encoding)++a.xs) c (PL a.sg d.q.XS) (Cb a.sg))):
  OK u (u1 (Pm u) b k a D G M c (PO a.en b.q.XS) (Cb a.en)):=by
 refine ct.member (xs:=b.q.XS) (rows:=M) (.head _) λj ω=> ?_
 have e:=Jw j (by lia) i h g f;refine(?_:OK u (u1 (Pm u) b k a D G M c (PO a.en b.q.XS) (Cb a.en)));rw[show a=v4 a a.en from rfl];dsimp only[v4]at e|-;clear j n h g f i;generalize a.en=l at*;cases l with
 |none=>exact e
 |some t=>exact e
noncomputable def TS(c:WC)(a:nZ)(b:Wy cl):Wy (Nat×gi):=[(a.x.cS,dP (.ref a.ss.st)),(a.x.cM,j3),(a.x.cO,j3),(a.x.cW,j3),(a.ss.st,a.ss.oo a.place a.t1),(a.ss.sc,cm a.ss.vs a.ss.Vc),(a.pl,cp b a.Fp a.U5),(393,aT),(972,aT)]
noncomputable def Sp(i:WC)(c:fD)(d:SD)(g h:Bool)(f:Bool)(e:AL):uk:=[dP (.ref c.q.ss.st),dP (.bytes d.body (e 23)),QN f (e 3),dP (.ref (e 4)),c.q.ss.oo (c.q.place+1+1+1) (e 5),cm c.q.ss.vs c.q.ss.Vc,cp d.ps c.q.Fp c.q.U5,ee (e 15),uW f (e 6),cm (ei d.xs.length c.a c.b) c.VF,dJ d.i1 d.j1 c.Vf (c.t 0) (c.t 1),fE d.z1 g (c.t 2) (c.t 3),dJ d.i2 d.j2 c.Vd (c.t 4) (c.t 5),fE d.z2 h (c.t 6) (c.t 7),fG (e 7)]
noncomputable def uq(a:fD)(b:SD):Nat->Wz:=λc=>match c with
 |1=>.bytes b.tree a.q.tn
 |2=>.ref a.q.pl
 |3=>.ref a.p1
 |4=>.ref a.p2
 |5=>iX b.en a.te
 |6=>.ref a.ml
 |d=>a.q.V d
noncomputable def J7(f:WC)(c:fD)(j:cl)(d:SD)(h i:Bool)(g:Bool):Spec:=
 ⟨mz 7 c.q.x,291,some c.q.x.L,⟨⟨c.q.x.L,gx f c.q.ks (uq c d) 7,true⟩::pl (TS f (c.q2 d) d.ps++x0 c d d.xs.length h i),[],λe ω=>gx f (gH (gH (gH (Fo c.q.ks e) 9 (e 16)) 7 (e 20)) 8 (e 21)) (Fq (lS (lS (lS (uq c d) 7 (iX d.sg (e 22))) 8 (.ref (e 17))) 9 (.bytes j (e 18))) c.W g e) 15::Sp f c d h i g e,nn,nn,nn,[⟨ei d.xs.length c.a c.b,d.xs⟩],nn⟩,λω ω=>uj (.bool true)⟩
noncomputable def j4(a:SD):Wy dh:=([(az .tree,a.tree)]++jP a.ps)++[AW a,AX a]
noncomputable def Us(c:fD)(g:SD)(d:uk)(h:Nat):fD:=let e:=d[0]?.getD default
 ⟨⟨c.q.x,λf=>dN e f,λf=>aA e f,g.tree,df (aA e 1),c.q.pl,c.q.U5,c.q.Fp,g.body,df (n1 (d[2]?.getD default)),c.q.ss,c.q.place+1+1,lk d 5 1,hu (aA e 8),eJ d 7,pC d 7⟩,c.ml,c.VF,c.a,c.b,c.p1,c.Vf,c.p2,c.Vd,c.t,c.te,h,0,0,c.W⟩
noncomputable def v5(a:SD)(b:Wy cl)(c:WA cl):SD:=⟨a.i1,a.j1,a.z1,a.i2,a.j2,a.z2,a.tree,b,a.en,a.xs,c,a.body⟩
noncomputable def QQ:Nat:=0x11003710f221004011110112015513005cc01c101001142111f090100a010041401420dd0dd3
noncomputable def TQ:Nat:=0x11003710f22100411af0112015513005cc01c10100111142111f090100a010041401420dd0dd3
noncomputable def QU:uh:=[1983,3007,4031,5055,6079,7103,8127,9151,0,11199,12223,13247,14271,15295,16319,17343,18367,19391,20415,0,7,1471,5,39]
theorem PP{k3 k4:Nat}(l:nX b.q.ss)(o:0<=b.q.place)(p:dD b.q.ss.vs b.q.place b.q.ss.fb 3=(k3:Nat))(r:dD b.q.ss.vs (b.q.place+1) b.q.ss.fb 4=(k4:Nat))(i:Ft[k3]?=some a.sg)(j:sM[k4]?=some a.body)(s:a.ps.length<=3)(v:(aC a.z1).2.2=D)(w:(aC a.z2).2.2=G)
 (n:∀(g:fD),g.q.ss=b.q.ss->g.q.place=b.q.place+1+1->g.W=b.W->OK u (u1 (Pm u) g k a D G (j4 a) c (PO a.en g.q.XS) (Cb a.en))):OK u (J7 (Pm u) b k a D G c):=by
 have z:k3<3:=by
  rcases List.getElem?_eq_some_iff.mp i with⟨m,_⟩;exact m
 have A:k4<4:=by
  rcases List.getElem?_eq_some_iff.mp j with⟨m,_⟩;exact m
 have h:aw u (λu=>[mv b.q.ss b.q.place 3 k3,BH Ft k3 (v5 a a.ps a.sg).sg,mv b.q.ss (b.q.place+1) 4 k4,GJ sM k4 (v5 a a.ps a.sg).body,λd e f=>Ph (Pm u) (jf d) (hC d) (hD d) (l9 d) b.q.pl b.q.U5 (v5 a a.ps a.sg).ps b.q.Fp,BK [(az .tree,(v5 a a.ps a.sg).tree)] (jP (v5 a a.ps a.sg).ps),λd e f=>qy b.p1 b.Vf (v5 a a.ps a.sg).i1 (v5 a a.ps a.sg).j1 (v5 a a.ps a.sg).z1 D (b.t 0) (b.t 1) (b.t 2) (b.t 3),λd e f=>qy b.p2 b.Vd (v5 a a.ps a.sg).i2 (v5 a a.ps a.sg).j2 (v5 a a.ps a.sg).z2 G (b.t 4) (b.t 5) (b.t 6) (b.t 7),BK ([(az .tree,(v5 a a.ps a.sg).tree)]++jP (v5 a a.ps a.sg).ps) [AW (v5 a a.ps a.sg),AX (v5 a a.ps a.sg)],λd e f=>u1 (Pm u) (Us b (v5 a a.ps a.sg) e (cH f 7 0)) k (v5 a a.ps a.sg) D G (j4 (v5 a a.ps a.sg)) c (PO (v5 a a.ps a.sg).en (pC e 7)) (Cb (v5 a a.ps a.sg).en)]):=⟨fY l o (by decide) p,sL i (by lia) (by decide),fY l (by lia) (by decide) r,BI j (by lia) (by decide),λd e f=>I2 s,sN (by refine(?_:1+(jP a.ps).length<=_);unfold jP;rw[List.length_map];lia),λd e f=>pk v,λd e f=>pk w,sN (by refine(?_:([_]++jP a.ps).length+2<=_);unfold jP;rw[List.length_append,List.length_map];refine(?_:1+_+2<=_);lia),λd e f=>n _ rfl rfl rfl,cg⟩
 clear l o p r i j s v w n z A;refine(?_:aI u (λu=>J7 (Pm u) b k (v5 a a.ps a.sg) D G c))
 generalize a.ps=x,a.sg=y at*;cases x with
 |nil=>cases y with
  |none=>exact bT QQ [[6,7],[0],[7,8],[0],[2,14,1,0],[3,1],[19,20],[22,23],[3,0],[12,13,14,15,16,17,18,0,19,20,21,22,23,24,25,26,27]] [15,14,13,12,11,10,9,8,7,6,5,4,3,2,1,0] (aE QU) h (J:=[[],[],[],[],[],[.cells [4],.UO 0],[],[],[.cells [8],.cells [2,1]],[.cells [9,3,2],.UO 1]])
  |some C=>exact bT QQ [[6,7],[0],[7,8],[0],[2,14,1,0],[3,1],[19,20],[22,23],[3,0],[12,13,14,15,16,17,18,0,19,20,21,22,23,24,25,26,27]] [15,14,13,12,11,10,9,8,7,6,5,4,3,2,1,0] (aE QU) h (J:=[[],[],[],[],[],[.cells [4],.UO 0],[],[],[.cells [8],.cells [2,1]],[.cells [9,3,2],.UO 1]])
 |cons H x=>cases y with
  |none=>exact bT TQ [[6,7],[0],[7,8],[0],[2,14,1,0],[3,1],[19,20],[22,23],[3,0],[12,13,14,15,16,17,18,0,19,20,21,22,23,24,25,26,27]] [15,14,13,12,11,10,9,8,7,6,5,4,3,2,1,0] (aE QU) h (J:=[[],[],[],[],[],[.cells [4],.UO 0],[],[],[.app (.cells [8]) (.UO 0),.cells [2,1]],[.app (.app (.cells [9]) (.UO 0)) (.cells [3,2]),.UO 1]])
  |some C=>exact bT TQ [[6,7],[0],[7,8],[0],[2,14,1,0],[3,1],[19,20],[22,23],[3,0],[12,13,14,15,16,17,18,0,19,20,21,22,23,24,25,26,27]] [15,14,13,12,11,10,9,8,7,6,5,4,3,2,1,0] (aE QU) h (J:=[[],[],[],[],[],[.cells [4],.UO 0],[],[],[.app (.cells [8]) (.UO 0),.cells [2,1]],[.app (.app (.cells [9]) (.UO 0)) (.cells [3,2]),.UO 1]])
end
section
noncomputable def PQ(c:Wy dh)(a b:Nat):Nat:=match c with
 |[]=>a
 |_=>b
noncomputable def BL(e:WC)(g f h d:Nat)(a:Wy dh)(c:SS)(i:Int)(j:Nat):Spec:=
 ⟨.compStart xR 0 (.ref g) (.ref f) (su xR 974 h d [(lq "state",c.cs)]),64,some d,⟨pl (lO e g f h a.length c i j),[],λb ω=>[fS a.length 0 1,cm (ei a.length (b 3) (b 4)) a.length,mM e a.length (b 0) (b 1),dP (.ref c.st),c.oo (ib i a.length) (PQ a j (b 2)),cm c.vs c.Vc],nn,nn,nn,[],λb ω=>[⟨ei a.length (b 3) (b 4),a⟩]⟩,λω ω=>.ok .next⟩
variable {c:Wy MM}
theorem Fv{a:SS}(o:c.map ho=M)(k:nX a)(l:0<=q)(m:sv a q c)(n:c.length<=2):OK u (BL (Pm u) f e g d M a q h):=by
 subst o;have j:∀b i,PQ (c.map ho) b i=Pf c b i:=λb i=>by cases c<;>rfl
 have:=EP (u:=u) (it:=f) (acc:=e) (loc:=g) (L:=d) (t1:=h) k l m n;unfold BL;simp only[j,List.length_map];exact this
noncomputable def Fw:Wy (WA cl):=[none,some #[108,97,116,105,110,49]]
noncomputable def Ut(a:WC)(c:nZ)(b:Wy cl):Wy (Nat×gi):=TS a c b++[(693,aT)]
noncomputable def TX(a:fD)(d:SD):Nat->Wz:=λb=>match b with
 |1=>.bytes d.tree a.q.tn
 |2=>.ref a.q.pl
 |c=>a.q.V c
noncomputable def Uu(b a:AL):AL:=gH (gH (gH (Fo b a) 9 (a 16)) 7 (a 20)) 8 (a 21)
noncomputable def Uv(c:Nat->Wz)(f:WA cl)(b d:cl)(e:Bool)(a:AL):Nat->Wz:=Fq (lS (lS (lS c 7 (iX f (a 22))) 8 (.ref (a 17))) 9 (.bytes b (a 18))) d e a
noncomputable def Uw(b a:AL):AL:=gH (gH (gH (gH (Uu b a) 3 (a 24)) 4 (a 25)) 5 (a 26)) 6 (a 27)
noncomputable def Ux(d:Nat->Wz)(b:SD)(c e:cl)(f:Bool)(a:AL):Nat->Wz:=Uv (lS (lS (lS (lS d 3 (.ref (a 28))) 4 (.ref (a 29))) 5 (iX b.en (a 30))) 6 (.ref (a 31))) b.sg c e f a
noncomputable def p7(b:Int)(a:Nat):Int:=ib (b+1+1+1+1+1+1+1+1) a
noncomputable def Sq(f:WC)(b:fD)(d:SD)(e:Int)(c:Bool)(a:AL):uk:=[dP (.ref b.q.ss.st),dP (.bytes d.body (a 23)),QN c (a 3),dP (.ref (a 4)),b.q.ss.oo (e+1+1+1) (a 5),cm b.q.ss.vs b.q.ss.Vc,cp d.ps b.q.Fp b.q.U5,ee (a 15),uW c (a 6),fG (a 7)]
noncomputable def J8(c:WC)(a:fD)(f:cl)(b:SD)(e:Bool):Spec:=
 ⟨mz 3 a.q.x,292,some a.q.x.L,⟨⟨a.q.x.L,gx c a.q.ks (TX a b) 3,true⟩::pl (Ut c (a.q2 b) b.ps),[],λd ω=>gx c (Uw a.q.ks d) (Ux (TX a b) b f a.W e d) 15::Sq c a b (p7 a.q.place b.xs.length) e d,nn,nn,nn,[],nn⟩,λω ω=>uj (.bool true)⟩
noncomputable def y7(b:fD)(f:SD)(e:uk)(a:Wy AL):fD:=let d:=e[0]?.getD default
 ⟨⟨b.q.x,λc=>dN d c,λc=>aA d c,f.tree,df (aA d 1),b.q.pl,b.q.U5,b.q.Fp,f.body,0,b.q.ss,p7 b.q.place f.xs.length,lk e 5 1,0,0,#[]⟩,hu (aA d 6),eJ e 10,cH a 0 3,cH a 0 4,cH a 5 0,cH a 5 1,cH a 4 0,cH a 4 1,λc=>match c with|0=>cH a 5 3|1=>cH a 5 4|2=>cH a 5 5|3=>cH a 5 6|4=>cH a 4 3|5=>cH a 4 4|6=>cH a 4 5|_=>cH a 4 6,cH a 2 0,0,0,0,b.W⟩
noncomputable def TY(a:fD):SS:=⟨a.q.x.cS,a.q.ss.st,a.q.ss.sc,a.q.ss.fb,a.q.ss.t2,a.q.ss.ep,a.q.ss.vs,a.q.ss.Vc⟩
noncomputable def PR(a:SS)(e:Int)(b:Fin 3)(c:Fin 4)(f:Fin 6):U:=λg d h=>vq a.st a.sc e a.fb b c f (lk d 0 1) a.t2 a.ep a.vs a.Vc
noncomputable def v6(a:SD)(b:WA cl)(c:Wy dh):SD:=⟨a.i1,a.j1,a.z1,a.i2,a.j2,a.z2,a.tree,a.ps,b,c,a.sg,a.body⟩
noncomputable def drawn(a:SS)(b:Int)(c:SD)(d:Nat)(e:Wy MM):Prop:=dD a.vs b a.fb 3=(c.i1.val:Nat)/\dD a.vs (b+1) a.fb 4=(c.j1.val:Nat)/\dD a.vs (b+1+1) a.fb 6=(c.z1.val:Nat)/\dD a.vs (b+1+1+1) a.fb 3=(c.i2.val:Nat)/\dD a.vs (b+1+1+1+1) a.fb 4=(c.j2.val:Nat)/\dD a.vs (b+1+1+1+1+1) a.fb 6=(c.z2.val:Nat)/\dD a.vs (b+1+1+1+1+1+1) a.fb 2=(d:Nat)/\dD a.vs (b+1+1+1+1+1+1+1) a.fb 3=(c.xs.length:Nat)/\sv a (b+1+1+1+1+1+1+1+1) e
theorem qz{x x':SS}(a:x'.vs=x.vs)(b:x'.fb=x.fb):∀{d:Int} {c:Wy MM},sv x d c->sv x' d c
 |_,[],_=>trivial
 |_,h::c,⟨e,f,g⟩=>⟨by rw[a,b];exact e,by rw[a,b];exact f,qz a b g⟩
noncomputable def QR:Nat:=0x1102013310401551111f21ef20166100070602f506f1111101001aa13
noncomputable def QS:Nat:=0x1102013310401551111f21ef20166100070602f506f1111101001aa1113
noncomputable def J9:uh:=[369,497,625,753,881,1009,1137,1265,0,1521,1649,1777,1905,2033,2161,2289,2417,2545,2673,0,2929,3057,3185,3313,1,5,33,305,0,3,25,209]
theorem PT{b:fD}{a:SD}(f:nX b.q.ss)(G:0<=b.q.place)(H:drawn b.q.ss b.q.place a d c)(m:Fw[d]?=some a.en)(n:c.map ho=a.xs)(o:a.xs.length<=2)
 (C:∀(j:fD),j.q.ss=b.q.ss->j.q.place=p7 b.q.place a.xs.length->j.W=b.W->OK u (J7 (Pm u) j k a (aC a.z1).2.2 (aC a.z2).2.2 D)):OK u (J8 (Pm u) b k a D):=by
 have L:d<2:=by
  rcases List.getElem?_eq_some_iff.mp m with⟨I,_⟩;exact I
 obtain⟨d1,p,r,s,t,v,w,y,z⟩:=H;have i:aw u (λu=>[PR b.q.ss (b.q.place) (v6 a a.en a.xs).i1 (v6 a a.en a.xs).j1 (v6 a a.en a.xs).z1,PR b.q.ss ((b.q.place)+1+1+1) (v6 a a.en a.xs).i2 (v6 a a.en a.xs).j2 (v6 a a.en a.xs).z2,mv b.q.ss ((b.q.place)+1+1+1+1+1+1) 2 d,BH Fw d (v6 a a.en a.xs).en,mv b.q.ss ((b.q.place)+1+1+1+1+1+1+1) 3 (v6 a a.en a.xs).xs.length,λe g h=>BL (Pm u) (jf e) (hC e) (hD e) (l9 e) (v6 a a.en a.xs).xs (TY b) ((b.q.place)+1+1+1+1+1+1+1+1) (lk g 4 1),λe g h=>J7 (Pm u) (y7 b (v6 a a.en a.xs) g h) k (v6 a a.en a.xs) (aC (v6 a a.en a.xs).z1).2.2 (aC (v6 a a.en a.xs).z2).2.2 D]):=⟨λe g h=>nb _ G f.sz f.iv d1 p r,λe g h=>nb _ (by lia) f.sz f.iv s t v,fY f (by lia) (by decide) w,sL m (by lia) (by decide),fY f (by lia) (by decide) y,λe g h=>Fv n ⟨f.sz,f.iv⟩ (by lia) (qz (x:=b.q.ss) (x':=TY b) rfl rfl z) (by have:=congrArg List.length n;rw[List.length_map]at this;lia),λe g h=>C _ rfl rfl rfl,cg⟩
 clear f G d1 p r s t v w y z m n C L;refine(?_:aI u (λu=>J8 (Pm u) b k (v6 a a.en a.xs) D))
 generalize a.en=l,a.xs=N at*
 match N,o with
 |[],_=>cases l with
  |none=>exact bT QR [[5,6],[7,8],[10,11],[0],[10,11],[2,1,0,10,14,15],[9,10,11,12,13,14,15,16,17,18,1,7,8,5,6,19]] [10,9,8,7,6,5,4,3,2,1,0] (aE J9) i (J:=[[],[],[],[],[],[],[.UO 0]])
  |some A=>exact bT QR [[5,6],[7,8],[10,11],[0],[10,11],[2,1,0,10,14,15],[9,10,11,12,13,14,15,16,17,18,1,7,8,5,6,19]] [10,9,8,7,6,5,4,3,2,1,0] (aE J9) i (J:=[[],[],[],[],[],[],[.UO 0]])
 |[M],_=>cases l with
  |none=>exact bT QS [[5,6],[7,8],[10,11],[0],[10,11],[2,1,0,10,14,15],[9,10,11,12,13,14,15,16,17,18,1,7,8,5,6,19]] [10,9,8,7,6,5,4,3,2,1,0] (aE J9) i (J:=[[],[],[],[],[],[],[.UO 0]])
  |some A=>exact bT QS [[5,6],[7,8],[10,11],[0],[10,11],[2,1,0,10,14,15],[9,10,11,12,13,14,15,16,17,18,1,7,8,5,6,19]] [10,9,8,7,6,5,4,3,2,1,0] (aE J9) i (J:=[[],[],[],[],[],[],[.UO 0]])
 |[M,O],_=>cases l with
  |none=>exact bT QS [[5,6],[7,8],[10,11],[0],[10,11],[2,1,0,10,14,15],[9,10,11,12,13,14,15,16,17,18,1,7,8,5,6,19]] [10,9,8,7,6,5,4,3,2,1,0] (aE J9) i (J:=[[],[],[],[],[],[],[.UO 0]])
  |some A=>exact bT QS [[5,6],[7,8],[10,11],[0],[10,11],[2,1,0,10,14,15],[9,10,11,12,13,14,15,16,17,18,1,7,8,5,6,19]] [10,9,8,7,6,5,4,3,2,1,0] (aE J9) i (J:=[[],[],[],[],[],[],[.UO 0]])
 |_::_::_::_,o=>exact absurd o (by simp)
end
section
noncomputable def PU(a:Wy cl)(b c:Nat):Nat:=match a with
 |[]=>b
 |_=>c
noncomputable def BM(e:WC)(g f h d:Nat)(a:Wy cl)(b:SS)(i:Int)(j:Nat):Spec:=
 ⟨.compStart ph 0 (.ref g) (.ref f) (su ph 974 h d [(lq "state",b.cs)]),114,some d,⟨pl (lO e g f h a.length b i j),[],λc ω=>[fS a.length 0 1,cp a (cn 3 c) a.length,mM e a.length (c 0) (c 1),dP (.ref b.st),b.oo (ib i a.length) (PU a j (c 2)),cm b.vs b.Vc],nn,nn,nn,[],nn⟩,λω ω=>.ok .next⟩
variable {c:Wy KK}
theorem Fx{b:SS}(o:c.map dw=A)(k:nX b)(l:0<=r)(m:qs b r c)(n:c.length<=3):OK u (BM (Pm u) f e g d A b r a):=by
 subst o;have j:∀h i,PU (c.map dw) h i=Pd c h i:=λh i=>by cases c<;>rfl
 have:=EO (u:=u) (it:=f) (acc:=e) (loc:=g) (L:=d) (t1:=a) k l m n;unfold BM;simp only[j,List.length_map];exact this
noncomputable def sO(c b:Nat)(g f:Int)(j:cl)(k h d:Nat)(i:ug)(e:Nat):Spec:=
 ⟨ul 930 [.ref c],70,none,UM [(c,hM b g f k h d),(b,cm i e)] (λa=>[hM b (g+1+1) f (a 1) h d,cm i e]) (λω=>[]),λa ω=>uj (.bytes j (a 0))⟩
variable {b:ug} {d:KK}
theorem u2{c:Nat}(m:dw d=k)(i:0<=r)(n:b.size<=2^24)(o:hB b)(j:dD b r q 16=(d.1.val:Nat))(l:dD b (r+1) q 16=(d.2.val:Nat)):OK u (sO c g r q k a h e b f):=by subst m;exact na i n o j l
noncomputable def envOf:Code->Env
 | .block _ a=>a
 | .compStart _ _ _ _ a=>a
 | .compLoop _ _ _ _ a=>a
 |_=>default
noncomputable def kw(c:Code)(a:Nat):Nat:=match(envOf c).cells[a]? with
 |some b=>b.2
 |none=>0
noncomputable def Sr(c:Code):LC:=⟨(envOf c).locals,kw c 3,kw c 2,kw c 1,kw c 0⟩
noncomputable def Jy(c b:Nat)(d:ug)(e:Bool):Spec:=
 ⟨ul 975 [.ref c],293,none,UM [(c,cm d b),(393,aT),(972,aT),(693,aT)] (λa=>[cm d b,ee (a 2),uW e (a 0),fG (a 1)]) (λω=>[]),λω ω=>uj (.bool true)⟩
noncomputable def Cc(b:Nat)(d:ug)(c:Int)(a:AL):SS:=⟨b,a 0,a 1,c,a 3,0,d,0⟩
noncomputable def y3(c:Code)(d:uk)(f:Wy AL)(e:SD)(i:ug)(h:Int)(g:cl):fD:=let a:=d[0]?.getD default
 ⟨⟨Sr c,λb=>dN a b,λb=>aA a b,e.tree,df (aA a 1),hu (aA a 2),eJ d 7,cn 3 (cH f 0),e.body,0,Cc (kw c 3) i h (cH f 3),ib (0+1+1+1) e.ps.length,lk d 5 1,0,0,#[]⟩,0,0,0,0,0,0,0,0,λω=>0,0,0,0,0,g⟩
noncomputable def v7(a:SD)(b:Wy cl):SD:=⟨a.i1,a.j1,a.z1,a.i2,a.j2,a.z2,a.tree,b,a.en,a.xs,a.sg,a.body⟩
theorem wA{x x':SS}(a:x'.vs=x.vs)(b:x'.fb=x.fb):∀{d:Int} {c:Wy KK},qs x d c->qs x' d c
 |_,[],_=>trivial
 |_,h::c,⟨e,f,g⟩=>⟨by rw[a,b];exact e,by rw[a,b];exact f,wA a b g⟩
noncomputable def TV:Nat:=0x10001000055410501661060177100060602f506f1111101001bb1113
theorem Jz{f:Wy (Int×Nat)}{a:SD}(I:b.toList=wd f)(C:f.length<=1000000)(G:b.size<=1000000)(J:b.extract 0 (min 60 b.size)=H)(A:(nT (f.map (·.1))).fmod 997=q)(n:H.size<=2^24)(o:hB H)
 (z:dw d=a.tree)(d1:dD H 0 q 16=(d.1.val:Nat))(t:dD H (0+1) q 16=(d.2.val:Nat))(v:dD H (0+1+1) q 4=(a.ps.length:Nat))(r:c.map dw=a.ps)(w:qs (Cc 0 H q λω=>0) (0+1+1+1) c)(s:a.ps.length<=3)
 (y:∀(m:fD),m.q.ss.vs=H->m.q.ss.fb=q->m.q.place=ib (0+1+1+1) a.ps.length->m.W=l->OK u (J8 (Pm u) m k a D)):aI u (λω=>Jy g e b D):=by
 have p:aw u (λu=>[λh i j=>Pc g e b H q,λh i j=>sO (ad h 0) (JS i 0 0) 0 q (v7 a a.ps).tree (lk i 0 1) (lk i 0 2) 0 H 0,λh i j=>jd (ad h 0) (JS i 0 0) (tk h 1) (0+1+1) q 4 ((v7 a a.ps).ps.length:Nat) (lk i 0 1) (lk i 0 2) 0 H 0,λh i j=>BM (Pm u) (jf h) (hC h) (hD h) (l9 h) (v7 a a.ps).ps (Cc (kw h 0) H q (cH j 2)) (0+1+1+1) (lk i 4 1),λh i j=>J8 (Pm u) (y3 h i j (v7 a a.ps) H q l) k (v7 a a.ps) D]):=⟨λh i j=>by rw[<-A];exact IZ I C G J,λh i j=>u2 z (by decide) n o d1 t,λh i j=>kN (by decide) n o (by decide) v,λh i j=>Fx r ⟨n,o⟩ (by decide) (wA (x:=Cc 0 H q λω=>0) (x':=Cc (kw h 0) H q (cH j 2)) rfl rfl w) (by have:=congrArg List.length r;rw[List.length_map]at this;lia),λh i j=>y _ rfl rfl rfl rfl,cg⟩
 clear I C G J A n o z d1 t v r w y;generalize a.ps=M at*
 match M,s with
 |[],_=>exact oT 0x10001000055410501661060177100060602f506f1111101001bb13 [[5],[0,1],[0,1],[2,1,0,9,4,5],[10,9,8,7,6,4,5,1,12,13,14]] [3,2,1,0] (aE [285,317,573]) p
 |[L],_=>exact oT TV [[5],[0,1],[0,1],[2,1,0,9,4,5],[10,9,8,7,6,4,5,1,12,13,14]] [3,2,1,0] (aE [285,317,573]) p
 |[L,N],_=>exact oT TV [[5],[0,1],[0,1],[2,1,0,9,4,5],[10,9,8,7,6,4,5,1,12,13,14]] [3,2,1,0] (aE [285,317,573]) p
 |[L,N,O],_=>exact oT TV [[5],[0,1],[0,1],[2,1,0,9,4,5],[10,9,8,7,6,4,5,1,12,13,14]] [3,2,1,0] (aE [285,317,573]) p
 |_::_::_::_::_,s=>exact absurd s (by simp)
end
noncomputable def eR(a:cl):cl:=a++ #[10]
theorem b7{c:UInt8}:(k.extract a (a+1)==(#[c]:cl))=true ↔k[a]?=some c:=by
 have d:(k.extract a (a+1)).toList=(k[a]?).toList:=by
  rw[Array.toList_extract];refine(?_:(k.toList.drop a).take (a+1-a)=_);rw[Nat.add_sub_cancel_left,List.take_one,List.head?_drop,Array.getElem?_toList]
 rw[beq_iff_eq,<-Array.toList_inj,d];cases k[a]? with
 |none=>exact⟨λb=>(List.cons_ne_nil _ _ (Eq.symm b)).elim,λb=>aU b⟩
 |some f=>exact⟨λb=>congrArg some (List.cons.inj b).1,λb=>congrArg (λe:WA UInt8=>e.toList) b⟩
theorem Fy{p n:Nat}(d:p<=n)(b:k[n]?=some 10)(e:∀a,p<=a->a<n->k[a]?≠some 10):oQ k #[10] p=some n:=by
 obtain⟨i,_⟩:=Array.getElem?_eq_some_iff.mp b;unfold oQ;rw[if_neg (by refine(?_:¬((k.size:Int)-p<1));lia)];unfold Builtin.Bytes.find?;refine(?_:List.find? (λa=>k.extract a (a+1)== #[10]) ((List.range (k.size+1-(p+1))).map (· +p))=some n)
 have g:n-p<k.size+1-(p+1):=by lia
 rw[List.find?_eq_some_iff_getElem];refine⟨b7.2 b,n-p,by rw[List.length_map,List.length_range];exact g,by rw[List.getElem_map,List.getElem_range];exact Nat.sub_add_cancel d,λh f=> ?_⟩
 rw[List.getElem_map,List.getElem_range,Bool.not_eq_true',<-Bool.not_eq_true];exact λc=>e (h+p) (Nat.le_add_left ..) (Nat.add_lt_of_lt_sub f) (b7.1 c)
theorem e4{S:Wy UInt8}(b:k.toList.drop a=(l.toList++[10])++S)(j:(10:UInt8)∉l.toList)(m:k.size<=1000000):dA k (a:Nat) (eR l) (a+l.size)/\k.toList.drop (a+l.size+1)=S:=by
 have p:k.size-a=l.size+1+S.length:=by
  have:=congrArg List.length b;rw[List.length_drop,List.length_append,List.length_append]at this;exact this
 have e:a+l.size+1<=k.size:=by lia
 have c:∀i,k[a+i]?=(l.toList++([10]++S))[i]?:=λi=>by
  rw[<-List.append_assoc,<-b,List.getElem?_drop,Array.getElem?_toList]
 have d:a+l.size+1=a+(l.toList++[10]).length:=by rw[List.length_append];rfl
 refine⟨⟨Int.natCast_nonneg a,Int.ofNat_lt.mpr (Nat.lt_of_lt_of_le (Nat.lt_succ_of_le (Nat.le_add_right a l.size)) e),Fy (p:=a) (n:=a+l.size) (Nat.le_add_right ..) ?_ (λi g h=> ?_), ?_,e,m⟩, ?_⟩
 ·rw[c,List.getElem?_append_right (l₁:=l.toList) (i:=l.size) (Nat.le_refl _),show l.size-l.toList.length=0 from Nat.sub_self _];rfl
 ·obtain⟨o,rfl⟩:=Nat.exists_eq_add_of_le g;rw[c o,List.getElem?_append_left (Nat.lt_of_add_lt_add_left h)];exact λf=>j (t9 f)
 ·apply Array.ext';rw[Array.toList_extract];refine(?_:(k.toList.drop a).take (a+l.size+1-a)=_);rw[b,d,Nat.add_sub_cancel_left,List.take_left];exact Array.toList_append.symm
 ·rw[d,<-List.drop_drop,b,List.drop_left]
structure ay where
 k:Kd
 (v l0:cl)
 ls:Wy cl
noncomputable def ay.row(a:ay):dh:=(az a.k,a.v)
noncomputable def ay.hd(a:ay):cl:=(az a.k++ #[32])++a.l0
noncomputable def ay.first(a:ay):cl:=eR a.hd
noncomputable def ay.UP(a:ay):Wy cl:=a.ls.map eR
noncomputable def ay.len(a:ay):Nat:=(eH a.row).size
noncomputable def dy:Wy cl->Wy UInt8
 |[]=>[]
 |a::b=>((#[32]++a).toList++[10])++dy b
structure RowC(r:ay):Prop where
 text:(eH r.row).toList=(r.hd.toList++[10])++dy r.ls
 n0:(10:UInt8)∉r.hd.toList
 ns:∀l∈r.ls,(10:UInt8)∉l.toList
 Vr:eQ r.first (az r.k) (eR r.l0)
 sp:aB r.first #[32]=false
 parts:kT (eR r.l0::r.UP) (eR r.v) r.v
 w:RowW (az r.k) r.v r.l0 r.ls
 fit:kg r.row
 size:(eH r.row).size<=500
 len:r.ls.length<=3
noncomputable def dQ(a:Wy ay):Wy UInt8:=(a.map λb=>(eH b.row).toList).flatten
noncomputable def eO:Wy ay->cl
 |[]=> #[10]
 |a::_=>a.first
noncomputable def Ka(a:ay)(c:Nat)(b:Wy ay):dm:=⟨a.k,eR a.l0,a.UP,c+(eO b).size-1,eO b,a.v⟩
noncomputable def jv:Nat->Wy ay->Wy dm
 |_,[]=>[]
 |b,a::R=>Ka a (b+a.len) R::jv (b+a.len) R
noncomputable def mg(a e:cl):Wy dm->cl->Int->Prop
 |[],c,b=>c= #[10]/\0<=b/\b<=(a.size:Nat)/\a.extract b.toNat a.size=e/\a.size<=1000000
 |d::f,c,b=>eQ c (az d.kind) d.rb/\er a b (az d.kind) d.rb d.UP d.np d.lp d.r/\mg a e f d.lp ((d.np:Int)+1)
theorem sP{l:cl}{S:Wy UInt8}(g:l.size<=1000000):∀(b:Wy cl) (a:Nat),(∀c∈b,(10:UInt8)∉c.toList)->l.toList.drop a=dy b++S->iE l (a:Nat) (b.map eR) ((a+(dy b).length:Nat):Int)/\l.toList.drop (a+(dy b).length)=S
 |[],a,_,d=>⟨.nil _,d⟩
 |c::b,a,f,d=>by
  have j:l.toList.drop a=((#[32]++c:cl).toList++[10])++(dy b++S):=by rw[d];refine(?_:_++dy b++S=_);rw[List.append_assoc]
  have k:(10:UInt8)∉(#[32]++c:cl).toList:=by
   have:=f c (.head _);simp only[Array.toList_append,List.mem_append];rintro(e|e)
   ·exact absurd e (by decide)
   ·exact this e
  obtain⟨n,m⟩:=e4 j k g;obtain⟨h,e⟩:=sP g b (a+(#[32]++c:cl).size+1) (λp o=>f p (.tail _ o)) m
  have i:a+(dy (c::b)).length=a+(#[32]++c:cl).size+1+(dy b).length:=by
   refine(?_:a+(((#[32]++c:cl).toList++[10])++dy b).length=_);simp;lia
  rw[i];refine⟨.cons n ?_ ?_ ?_,e⟩
  ·unfold aB eR;rw[if_neg (by simp;lia)];simp
  ·unfold eR;apply Array.ext';simp;rw[List.take_of_length_le (by simp)]
  ·have:((a+(#[32]++c:cl).size+1:Nat):Int)=((a+(#[32]++c:cl).size:Nat):Int)+1:=by lia
   rw[<-this];exact h
theorem Fz{a:ay}(b:RowC a):a.len=a.hd.size+1+(dy a.ls).length:=by have:=congrArg List.length b.text;unfold ay.len;simp at this;lia
theorem pn:∀(R:Wy ay) (b:Nat),(∀a∈R,RowC a)->l.toList.drop b=dQ R++10::m.toList->l.size<=1000000->dA l (b:Nat) (eO R) (b+(eO R).size-1)/\aB (eO R) #[32]=false/\(eO R).size≠0
 |[],b,_,c,g=>by
  have d:l.toList.drop b=((#[]:cl).toList++[10])++m.toList:=c;obtain⟨f,_⟩:=e4 d (by simp) g;exact⟨f,by decide,by decide⟩
 |a::R,b,i,c,g=>by
  have e:=i a (.head _);have d:l.toList.drop b=(a.hd.toList++[10])++(dy a.ls++(dQ R++10::m.toList)):=by
   rw[c];refine(?_:((eH a.row).toList++dQ R)++_=_);rw[e.text];simp only[List.append_assoc]
  obtain⟨f,_⟩:=e4 d e.n0 g;have h:(eO (a::R)).size=a.hd.size+1:=by refine(?_:(eR a.hd).size=_);unfold eR;simp
  refine⟨?_,e.sp,by lia⟩;rw[h];exact f
theorem chain{l m:cl}:∀(R:Wy ay) (a:Nat),(∀b∈R,RowC b)->l.toList.drop a=dQ R++10::m.toList->l.size<=1000000->mg l m (jv a R) (eO R) (a+(eO R).size:Nat)
 |[],a,_,e,d=>by
  have f:l.toList.drop a=((#[]:cl).toList++[10])++m.toList:=e;obtain⟨o,g⟩:=e4 f (by simp) d;have e1:=o.le;refine⟨rfl,by lia, ?_, ?_,d⟩
  ·refine(?_:((a+1:Nat):Int)<=_);have:a+(#[]:cl).size=a:=rfl;lia
  ·apply Array.ext';rw[Array.toList_extract];refine(?_:(l.toList.drop (a+1)).take _=_);have k:l.toList.drop (a+1)=m.toList:=g;rw[k];rw[List.take_of_length_le];rw[<-k];simp;have e2:(eO []).size=1:=rfl;rw[e2];lia
 |b::R,a,p,e,d=>by
  have c:=p b (.head _);have f:l.toList.drop a=(b.hd.toList++[10])++(dy b.ls++(dQ R++10::m.toList)):=by
   rw[e];refine(?_:((eH b.row).toList++dQ R)++_=_);rw[c.text];simp only[List.append_assoc]
  obtain⟨o,g⟩:=e4 f c.n0 d;obtain⟨n,h⟩:=sP d b.ls _ c.ns g;have r:a+b.hd.size+1+(dy b.ls).length=a+b.len:=by rw[Fz c];lia
  rw[r]at n h;have j:∀i∈R,RowC i:=λi s=>p i (.tail _ s)
  obtain⟨v,w,x⟩:=pn R (a+b.len) j h d;have t:=chain R (a+b.len) j h d;have q:(eO (b::R)).size=b.hd.size+1:=by refine(?_:(eR b.hd).size=_);unfold eR;simp
  refine⟨c.Vr,⟨⟨_,_, ?_,v,c.parts⟩,w, ?_⟩, ?_⟩
  ·rw[q,show a+(b.hd.size+1)=a+b.hd.size+1 by lia];exact n
  ·refine(?_:(b.ls.map eR).length<_);rw[List.length_map];have:=c.len;lia
  ·refine(?_:mg l m (jv (a+b.len) R) (eO R) (((a+b.len+(eO R).size-1:Nat):Int)+1));rw[show(((a+b.len+(eO R).size-1:Nat):Int)+1)=((a+b.len+(eO R).size:Nat):Int) by lia];exact t
noncomputable def x3:Wy ay->Bool->Bool->Bool->Bool
 |[],_,_,_=>true
 |d::R,c,a,b=>match d.k with
  | .parent=>x3 R c a b
  | .UK=> !a && x3 R false true b
  | .UL=> !b && x3 R false a true
  |_=>x3 R false a b
theorem n4{l m:cl}:∀(R:Wy ay) (f:Nat) (n:cl) (o:Int) (j g h e:Bool) (d:Nat),(∀c∈R,c.k= .parent->ff c.v)->d+R.length<=100000->x3 R j g h=true->mg l m (jv f R) n o->gd l m (jv f R) n o j g h e d
 |[],f,n,o,j,g,h,e,d,_,_,_,w=>w
 |c::R,f,n,o,j,g,h,e,d,q,r,a,⟨x,y,z⟩=>by
  have D:d+1+R.length<=100000:=by simp at r;lia
  have A:∀p∈R,p.k= .parent->ff p.v:=λp i=>q p (.tail _ i)
  refine⟨x,y,by simp at r;lia, ?_⟩;have i:=q c (.head _);have b:=λG s t e a=>n4 R (f+c.len) _ _ G s t e (d+1) A D a z
  unfold x3 at a;refine(?_:(match c.k with
   | .parent=>_| .UK=>_| .UL=>_| .encoding=>_| .sig=>_| .tag=>_| .rename=>_| .tree=>_))
  cases C:c.k<;>simp only[C]at a i|-
  ·exact b _ _ _ _ a
  ·exact⟨λω=>i trivial,b _ _ _ _ a⟩
  ·rw[Bool.and_eq_true,Bool.not_eq_true']at a;exact⟨a.1,b _ _ _ _ a.2⟩
  ·rw[Bool.and_eq_true,Bool.not_eq_true']at a;exact⟨a.1,b _ _ _ _ a.2⟩
  ·exact b _ _ _ _ a
  ·exact b _ _ _ _ a
  ·exact b _ _ _ _ a
  ·exact b _ _ _ _ a
noncomputable def GK:Wy ay->Kd->Bool
 |[],_=>true
 |a::R,b=>kq a.k b && GK R a.k
theorem sQ{l m:cl}:∀(R:Wy ay) (d:Nat) (c:cl) (e:Int) (b:Kd),GK R b=true->mg l m (jv d R) c e->nM l m (jv d R) c e b
 |[],_,_,_,_,_,f=>f
 |j::R,d,c,e,b,a,⟨g,h,i⟩=>by
  unfold GK at a;rw[Bool.and_eq_true]at a;exact⟨g,h,a.1,sQ R _ _ _ _ a.2 i⟩
section
noncomputable def qA(a:cl):Bool:=a.toList.all λb=> !(b==10)
variable {b:cl}
theorem bE(a:qA b=true):(10:UInt8)∉b.toList:=λc=>by
 have:=List.all_eq_true.mp a _ c;simp at this
noncomputable def BN(a:ay):Bool:=((eH a.row).toList==(a.hd.toList++[10])++dy a.ls) && qA a.hd && a.ls.all qA &&(!(a.first.toList==(#[10]:cl).toList)) &&(gg a.first #[32] 1==[az a.k,eR a.l0]) &&(!aB a.first #[32]) &&(eI #[] (eR a.l0::a.UP)==eR a.v) &&((eR a.l0::a.UP).foldl (· + ·.size) 0==a.v.size+1) && oR (eR a.v) #[10] &&(pU (eR a.v)==a.v) &&(gg a.v #[10] (a.v.size+1)==a.l0::a.ls) &&((a.l0::a.ls).all λb=>Nat.ble b.size 500) && Nat.ble (eI #[32] [az a.k,a.l0]).size 500 && Nat.ble (eH a.row).size 500 && Nat.ble a.ls.length 3 && Nat.ble (a.v.size+(Builtin.Bytes.occurrences a.v #[10] 0 a.v.size).length*2) 1000 && Nat.ble (az a.k).size 500
theorem Yj{a b:Bool}(c:(a && b)=true):b=true:=((Bool.and_eq_true ..).mp c).2
theorem vh{a:Bool}(b:(!a)=true):a=false:=(Bool.not_eq_true' a).mp b
theorem wo(b:(Nat.ble a d)=true)(e:d<=c):a<=c:=Nat.le_trans (Nat.le_of_ble_eq_true b) e
theorem c5:(eR b).size=b.size+1:=Array.size_append
theorem wq(a:b.size<=d)(e:d+1<=c):(eR b).size<=c:=c5▸Nat.le_trans (Nat.succ_le_succ a) e
theorem XH{a:Prop}{i j k l m n o p b c d e f g h:Bool}(q:(D && i && j && k && l && m && n && o && p && G && b && c && d && e && f && g && h)=true)(Q:D=true->i=true->j=true->k=true->l=true->m=true->n=true->o=true->p=true->G=true->b=true->c=true->d=true->e=true->f=true->g=true->h=true->a):a:=by simp only[Bool.and_eq_true]at q;obtain⟨⟨⟨⟨⟨⟨⟨⟨⟨⟨⟨⟨⟨⟨⟨⟨r,C⟩,H⟩,I⟩,J⟩,L⟩,M⟩,N⟩,O⟩,s⟩,t⟩,v⟩,w⟩,x⟩,y⟩,z⟩,A⟩:=q;exact Q r C H I J L M N O s t v w x y z A
theorem B9(b:d=c+1)(e:c<=1000)(f:1001<=a):d<=a:=b▸Nat.le_trans (Nat.succ_le_succ e) f
theorem XI{b:Nat}(c:Nat.ble (a+b) 1000=true):a<=1000:=Nat.le_trans (Nat.le_add_right ..) (Nat.le_of_ble_eq_true c)
theorem qB{a:ay}(d:BN a=true):RowC a:=by unfold BN at d;exact XH d λi m n o p q r s t j k b l e f c g=>⟨eq_of_beq i,bE m,λx v=>bE (List.all_eq_true.mp n x v),⟨vh o,eq_of_beq p,wo g (by decide),wq (Nat.le_of_ble_eq_true (List.all_eq_true.mp b a.l0 (.head _))) (by decide)⟩,vh q,⟨List.cons_ne_nil _ _,eq_of_beq r,(λh=>Nat.succ_ne_zero _ (c5.symm.trans h)),wq (XI c) (by decide),B9 (eq_of_beq s) (XI c) (by decide),t,eq_of_beq j⟩,⟨eq_of_beq k,λy w=>wo (List.all_eq_true.mp b y w) (by decide),Nat.le_trans (Nat.succ_le_succ (Nat.le_of_ble_eq_true f)) (by decide),wo l (by decide),Nat.le_trans (Nat.add_le_add (Nat.le_of_ble_eq_true g) (Nat.le_of_ble_eq_true (List.all_eq_true.mp b a.l0 (.head _)))) (by decide)⟩,⟨wo e (by decide),wo c (by decide)⟩,Nat.le_of_ble_eq_true e,Nat.le_of_ble_eq_true f⟩
noncomputable def bt(d:cl)(c:UInt8)(b:uh×Nat)(a:Nat):uh×Nat:=if(decide (a>=b.snd) && d.extract a (a+1)==(#[c]:cl))=true then(a::b.fst,a+1)else b
variable {l:uh} {acc:uh×Nat} {c:UInt8}
theorem c6(d:∀a∈l,b[a]?≠some c):l.foldl (bt b c) acc=acc:=by
 induction l with
 |nil=>rfl
 |cons a l g=>exact(congrArg (λi=>l.foldl (bt b c) i) (if_neg λe=>d a (.head _) (b7.1 (Yj e)))).trans (g λh f=>d h (.tail _ f))
theorem wr(e:∃a,acc.fst=a++[d]):∃a,(l.foldl (bt b c) acc).fst=a++[d]:=by
 induction l generalizing acc with
 |nil=>exact e
 |cons g l h=>
  refine h ?_;obtain⟨a,f⟩:=e;unfold bt;split
  ·exact⟨g::a,congrArg (g:: ·) f⟩
  ·exact⟨a,f⟩
theorem n5(e:c∉b.toList):Builtin.Bytes.occurrences b #[c] 0 b.size=[]:=
 congrArg (λa:uh×Nat=>a.fst.reverse) (c6 (acc:=([],0)) (l:=(List.range (b.size+1-(0+1))).map λa=>a+0) λf ω d=>e (t9 (Array.getElem?_toList.trans d)))
theorem BO(a:cl):a.extract 0=a:=by simp
theorem u3(d:c∉b.toList):gg b #[c] a=[b]:=by unfold gg;rw[n5 d,List.take_nil];refine(?_:((#[]:WD cl).push (b.extract 0)).toList=[b]);rw[BO];simp
theorem join_one(b a:cl):eI b [a]=a:=by refine(?_:(#[]:cl)++a=a);simp
variable {a:cl}
theorem x4(d:c∉b.toList):jc b #[c] a=b:=by unfold jc;rw[n5 d];refine(?_:Builtin.Bytes.joined a ((#[]:WD cl).push (b.extract 0)).toList=b);rw[BO];exact join_one a b
theorem sR(m:c∉a.toList):gg ((a++ #[c])++k) #[c] 1=[a,k]:=by
 have f:((a++ #[c])++k:cl).toList=a.toList++c::k.toList:=by rw[Array.toList_append,Array.toList_append,List.append_assoc];rfl
 generalize (a++ #[c])++k=d at f;have h:d.size=a.size+(k.size+1):=(congrArg List.length f).trans List.length_append;have g:∀i,d[i]?=(a.toList++c::k.toList)[i]?:=λi=>by rw[<-Array.getElem?_toList,f]
 have r:=c6 (b:=d) (c:=c) (acc:=([],0)) (l:=List.range a.size) λi o j=>m (t9 ((List.getElem?_append_left (l₂:=c::k.toList) (List.mem_range.1 o)).symm.trans ((g i).symm.trans j)))
 have n:d[a.size]?=some c:=by rw[g,List.getElem?_append_right (l₁:=a.toList) (i:=a.size) (Nat.le_refl _),show a.size-a.toList.length=0 from Nat.sub_self _];rfl
 have p:(Builtin.Bytes.occurrences d #[c] 0 d.size).take 1=[a.size]:=by
  refine(?_:((((List.range (d.size+1-(0+1))).map λe=>e+0).foldl (bt d c) ([],0)).fst.reverse).take 1=_)
  rw[show(List.range (d.size+1-(0+1))).map (λe=>e+0)=List.range d.size from List.map_id' _,h,List.range_add,List.range_succ_eq_map,List.map_cons,List.foldl_append,r,List.foldl_cons,show bt d c ([],0) (a.size+0)=([a.size],a.size+1)from if_pos ((Bool.and_eq_true ..).mpr ⟨decide_eq_true (Nat.zero_le _),b7.2 n⟩)]
  obtain⟨e,q⟩:=wr (b:=d) (c:=c) (l:=(List.map Nat.succ (List.range k.size)).map λe=>a.size+e) (acc:=([a.size],a.size+1)) ⟨[],rfl⟩
  rw[q,List.reverse_append];rfl
 unfold gg;rw[p];refine(?_:(((#[]:WD cl).push (d.extract 0 a.size)).push (d.extract (a.size+1))).toList=[a,k]);have e1:d.extract 0 a.size=a:=by
  apply Array.ext';rw[Array.toList_extract,f];exact List.take_left
 have e2:d.extract (a.size+1)=k:=by
  apply Array.ext';rw[Array.toList_extract];refine(?_:(d.toList.drop (a.size+1)).take (d.size-(a.size+1))=_);rw[f,<-List.drop_drop,show a.size=a.toList.length from rfl,List.drop_left];exact List.take_of_length_le (by rw[h];refine(?_:k.size<=a.size+(k.size+1)-(a.size+1));lia)
 rw[e1,e2];rfl
noncomputable def wB:cl:= #[108,97,116,105,110,49]
noncomputable def PV:ay:=⟨.encoding,wB,wB,[]⟩
noncomputable def T0(a:Fin 5):cl×Wy cl:=([(#[111,110,101],[]),(#[],[]),(#[116,119,111],[#[114,111,119,115]]),(#[97],[#[],#[98]]),(#[101,110,100],[#[]])]:Wy (cl×Wy cl)).getD a.val (#[],[])
noncomputable def f4(a:MM):ay:=⟨match a.1 with|0=>.tag|1=>.rename,Bp.getD a.2.val #[],(T0 a.2).1,(T0 a.2).2⟩
noncomputable def x5(a:Bool):cl:=if a then #[45,45,45,45,45,66,69,71,73,78,10,10,97,98,99,10,45,45,45,45,45,69,78,68]else #[120]
noncomputable def JA(a:Bool):ay:=⟨.sig,x5 a,if a then #[45,45,45,45,45,66,69,71,73,78]else #[120],if a then[#[],#[97,98,99],#[45,45,45,45,45,69,78,68]]else[]⟩
theorem PX:RowC PV:=qB (by decide+kernel)
theorem JB(a:MM):RowC (f4 a):=qB (by
 have:∀b:Fin 2,∀c:Fin 5,BN (f4 (b,c))=true:=by decide+kernel
 exact this a.1 a.2)
theorem GL(a:Bool):RowC (JA a):=qB (by revert a;decide+kernel)
theorem BP(a:Kd):(32:UInt8)∉(az a).toList/\(10:UInt8)∉(az a).toList/\0<(az a).size/\(az a).size<=9:=by cases a<;>decide+kernel
theorem PY(a:Kd):(az a)[0]?≠some 32:=by cases a<;>decide+kernel
theorem mN{a:Kd}(b:(10:UInt8)∉k.toList)(q:k.size<=400):RowC ⟨a,k,k,[]⟩:=by
 obtain⟨l,m,n,r⟩:=BP a;have f:eH (az a,k)=((az a++ #[32])++k)++ #[10]:=by unfold eH;rw[x4 b]
 have p:(eH (az a,k)).size=(az a).size+1+k.size+1:=by rw[f];simp;lia
 have d:(eR k).size=k.size+1:=by unfold eR;simp
 refine⟨?_, ?_,(λs g=>(List.not_mem_nil g).elim),⟨?_, ?_,by refine(?_:(az a).size<=_);lia,by refine(?_:(eR k).size<=_);lia⟩, ?_,⟨by simp,join_one _ _,by refine(?_:(eR k).size≠0);lia,by refine(?_:(eR k).size<=_);lia, ?_, ?_, ?_⟩,⟨?_, ?_,(show 1<=100000 by decide), ?_,by refine(?_:(az a).size+k.size<=_);lia⟩,⟨by refine(?_:(eH (az a,k)).size<=_);lia, ?_⟩,by refine(?_:(eH (az a,k)).size<=_);lia,(show 0<=3 by decide)⟩
 ·refine(?_:(eH (az a,k)).toList=((((az a++ #[32])++k:cl).toList)++[10])++[]);rw[f];simp
 ·refine(?_:(10:UInt8)∉((az a++ #[32])++k:cl).toList);simp only[Array.toList_append,List.mem_append];rintro((e|e)|e)
  ·exact m e
  ·exact absurd e (by decide)
  ·exact b e
 ·refine(?_:((eR ((az a++ #[32])++k)).toList==(#[10]:cl).toList)=false);rw[<-Bool.not_eq_true,beq_iff_eq];intro e;have:=congrArg List.length e;unfold eR at this;simp at this;lia
 ·refine(?_:gg (eR ((az a++ #[32])++k)) #[32] 1=[az a,eR k]);unfold eR;rw[Array.append_assoc];exact sR l
 ·refine(?_:aB (eR ((az a++ #[32])++k)) #[32]=false);unfold aB;have j:(eR ((az a++ #[32])++k)).size=(az a).size+1+k.size+1:=by unfold eR;simp;lia
  rw[if_neg (by rw[j];refine(?_:¬(_<((1:Nat):Int)));lia),<-Bool.not_eq_true,beq_iff_eq];intro e;have c:((eR ((az a++ #[32])++k)).extract 0 (0+1))[0]?=some 32:=by
   have:(eR ((az a++ #[32])++k)).extract 0 (0+1)=(#[32]:cl):=e;rw[this];rfl
  rw[Array.getElem?_extract,if_pos (by lia)]at c;unfold eR at c;rw[Array.getElem?_append,if_pos (by simp;lia),Array.getElem?_append,if_pos (by simp),Array.getElem?_append,if_pos (by simpa using n)]at c;exact PY a c
 ·refine(?_:[eR k].foldl (· + ·.size) 0<=_);simp;lia
 ·refine(?_:oR (eR k) #[10]=true);unfold oR;rw[if_neg (by rw[d];refine(?_:¬(_<((1:Nat):Int)));lia),beq_iff_eq];apply Array.ext';rw[Array.toList_extract,d];unfold eR;simp
 ·refine(?_:pU (eR k)=k);unfold pU;rw[d];apply Array.ext';rw[Array.toList_extract];unfold eR;simp
 ·refine(?_:gg k #[10] (k.size+1)=[k]);exact u3 b
 ·intro o h;have i:o=k:=by simpa using h
  rw[i];lia
 ·refine(?_:(eI #[32] [az a,k]).size<=_);have:eI #[32] [az a,k]=(az a++ #[32])++k:=by
   refine(?_:((#[]:cl)++az a++ #[32])++k=_);simp
  rw[this];simp;lia
 ·refine(?_:k.size+(Builtin.Bytes.occurrences k #[10] 0 k.size).length*2<=_);rw[n5 b];simp;lia
end
theorem n6(a:KK):(10:UInt8)∉(dw a).toList/\(dw a).size=40:=by
 have:∀b c:Fin 16,(qA (eF b c) && Nat.beq (eF b c).size 40)=true:=by decide+kernel
 have:=this a.1 a.2;rw[Bool.and_eq_true,Nat.beq_eq]at this;exact⟨bE this.1,this.2⟩
theorem BQ(a:Fin 3)(b:Fin 4)(c:Fin 6):(10:UInt8)∉(dk a b c).toList/\(dk a b c).size<=100:=by
 have:∀(a:Fin 3) (b:Fin 4) (c:Fin 6),(qA (dk a b c) && Nat.ble (dk a b c).size 100)=true:=by decide+kernel
 have:=this a b c;rw[Bool.and_eq_true,Nat.ble_eq]at this;exact⟨bE this.1,this.2⟩
structure In where
 k:KK
 ks:Wy KK
 i1:Fin 3
 j1:Fin 4
 z1:Fin 6
 i2:Fin 3
 j2:Fin 4
 z2:Fin 6
 en:Bool
 ms:Wy MM
 sg:WA Bool
 bd:Fin 4
noncomputable def In.Vb(a:In):WA cl:=if a.en then some wB else none
noncomputable def In.Vh(a:In):WA cl:=a.sg.map x5
noncomputable def In.sd(a:In):SD:=⟨a.i1,a.j1,a.z1,a.i2,a.j2,a.z2,dw a.k,a.ks.map dw,a.Vb,a.ms.map ho,a.Vh,sM.getD a.bd.val #[]⟩
noncomputable def lP(b:Kd)(a:cl):ay:=⟨b,a,a,[]⟩
noncomputable def ie(a:Bool):Wy ay:=if a then[PV]else[]
noncomputable def fq(a:WA Bool):Wy ay:=match a with
 |none=>[]
 |some b=>[JA b]
noncomputable def In.rest(a:In):Wy ay:=(a.ks.map λb=>lP .parent (dw b))++([lP .UK (dk a.i1 a.j1 a.z1),lP .UL (dk a.i2 a.j2 a.z2)]++(ie a.en++a.ms.map f4))
noncomputable def In.rows0(a:In):Wy ay:=lP .tree (dw a.k)::a.rest
noncomputable def In.rows(a:In):Wy ay:=lP .tree (dw a.k)::(a.rest++fq a.sg)
theorem In.c0(k:In):∀i∈k.rows0,RowC i:=by
 intro i a;have h:∀b e,RowC (lP b (dw e)):=λb e=>mN (n6 e).1 (by have:=(n6 e).2;lia)
 have g:∀b c d f,RowC (lP b (dk c d f)):=λb c d f=>mN (BQ c d f).1 (by have:=(BQ c d f).2;lia)
 unfold In.rows0 In.rest at a;simp only[List.mem_cons,List.mem_append,List.mem_map,List.not_mem_nil,or_false]at a;rcases a with rfl|⟨b,_,rfl⟩|(rfl|rfl)|a|⟨j,_,rfl⟩
 ·exact h _ _
 ·exact h _ _
 ·exact g _ _ _ _
 ·exact g _ _ _ _
 ·unfold ie at a;split at a
  ·rw[List.mem_singleton]at a;subst a;exact PX
  ·cases a
 ·exact JB j
theorem In.WO(b:In):∀a∈b.rows,RowC a:=by
 intro a c;have:a∈b.rows0\/a∈fq b.sg:=by
  unfold In.rows In.rows0 at*;simp only[List.mem_cons,List.mem_append]at*;rcases c with h|h|h
  ·exact .inl (.inl h)
  ·exact .inl (.inr h)
  ·exact .inr h
 rcases this with h|h
 ·exact b.c0 a h
 ·unfold fq at h;split at h
  ·cases h
  ·rw[List.mem_singleton]at h;subst h;exact GL _
theorem sS(a:MM):(f4 a).row=ho a:=by
 have:∀(b:Fin 2) (c:Fin 5),(f4 (b,c)).row=ho (b,c):=by decide+kernel
 exact this a.1 a.2
theorem In.VT(a:In):a.rows0.map ay.row=d9 (j4 a.sd) a.sd.en (az .encoding)++a.sd.xs:=by
 unfold In.rows0 In.rest;have e1:(a.ks.map λb=>lP .parent (dw b)).map ay.row=jP (a.ks.map dw):=by
  unfold jP;rw[List.map_map,List.map_map];rfl
 have e2:(a.ms.map f4).map ay.row=a.ms.map ho:=by
  rw[List.map_map];exact List.map_congr_left λc ω=>sS c
 rw[List.map_cons,List.map_append,e1,List.map_append,List.map_append,e2];refine(?_:(az .tree,dw a.k)::(jP (a.ks.map dw)++([AW a.sd,AX a.sd]++((ie a.en).map ay.row++a.ms.map ho)))=d9 (([(az .tree,dw a.k)]++jP (a.ks.map dw))++[AW a.sd,AX a.sd]) a.Vb (az .encoding)++a.ms.map ho);unfold ie In.Vb;cases a.en with
 |false=>simp[d9]
 |true=>
  simp[d9];rfl
theorem In.map(a:In):a.rows.map ay.row=d9 (d9 (j4 a.sd) a.sd.en (az .encoding)++a.sd.xs) a.sd.sg (az .sig):=by
 rw[<-a.VT];unfold In.rows In.rows0;rw[<-List.cons_append,List.map_append];refine(?_:_=d9 _ a.Vh (az .sig));unfold fq In.Vh;cases a.sg with
 |none=>simp[d9]
 |some b=>simp only[Option.map,d9];rfl
theorem In.fin(a:In)(b:a.ms.length<=2):xM a.sd=a.rows.map ay.row:=by
 rw[a.map];unfold xM;have e1:pa a.sd=j4 a.sd:=by
  unfold pa j4;simp
 have e2:∀R,nL R a.sd.xs=R++a.sd.xs:=λR=>by
  refine(?_:nL R (a.ms.map ho)=R++a.ms.map ho)
  match a.ms,b with
  |[],_=>simp[nL]
  |[c],_=>simp[nL]
  |[c,d],_=>simp[nL]
  |_::_::_::_,b=>exact absurd b (by simp)
 rw[e1,e2]
theorem FA(a:Wy ay):(ng (a.map ay.row)).toList=dQ a:=by
 unfold ng dQ;have i:∀(b:Wy cl) (c:cl) (d:Nat),((b.zipIdx d).foldl (λ(f:cl) g=>(if g.2>0 then f++(#[]:cl)else f)++g.1) c).toList=c.toList++(b.map (·.toList)).flatten:=λb=>by
  induction b with
  |nil=>intro c d;simp
  |cons e b h=>
   intro c d;rw[List.zipIdx_cons,List.foldl_cons,h];simp only[List.map_cons,List.flatten_cons];split<;>simp
 have:=i (List.map eH (List.map ay.row a)) #[] 0;rw[show(List.map eH (List.map ay.row a)).map (λe:cl=>e.toList)=a.map λj=>(eH j.row).toList by rw[List.map_map,List.map_map];rfl]at this
 exact this
theorem n7(a:Wy ay)(b:cl):(cz (a.map ay.row) b).toList=dQ a++10::b.toList:=by unfold cz;simp[FA]
theorem lT:∀(R:Wy ay),(∀a∈R,RowC a)->(dQ R).length<=500*R.length
 |[],_=>Nat.le_refl _
 |a::R,b=>by
  have e:=(b a (.head _)).size;have f:=lT R λd c=>b d (.tail _ c)
  refine(?_:((eH a.row).toList++dQ R).length<=_);simp;lia
section
noncomputable def d1(a:ay)(b:Wy ay):eY:=⟨a.first,a.hd.size,eR a.l0,a.UP,a.len+(eO b).size-1,eO b,a.v⟩
structure jw(T msg:cl)(r:ay)(R:Wy ay):Prop where
 size:T.size<=100000
 big:0<T.size
 line:dA T 0 (d1 r R).line (d1 r R).n
 sp:aB (d1 r R).line #[32]=false
 Vr:eQ (d1 r R).line (az r.k) (d1 r R).rb
 row:er T (((d1 r R).n:Int)+1) (az r.k) (d1 r R).rb (d1 r R).UP (d1 r R).np (d1 r R).lp (d1 r R).r
 chain:mg T msg (jv r.len R) (d1 r R).lp (((d1 r R).np:Int)+1)
theorem lh(a:k.size<=100000):dW [k] k:=⟨by simp,join_one _ _,by simp;lia⟩
theorem Su(a:k.size<=100000):s3 [k] k:=⟨by simp,join_one _ _,by lia,by simp;lia⟩
variable {R:Wy ay}
theorem g6(b:∀c∈R,RowC c)(e:R.length<=100)(f:k.size<=1000):(cz (R.map ay.row) k).size<=100000:=by have d:=lT R b;have a:=congrArg List.length (n7 R k);simp at a;lia
theorem pp{r:ay}{msg:cl}(b:∀a∈r::R,RowC a)(h:(r::R).length<=100)(i:msg.size<=1000):jw (cz ((r::R).map ay.row) msg) msg r R:=by
 have j:=g6 b h i;have l:=n7 (r::R) msg;generalize cz ((r::R).map ay.row) msg=c at*;have e:c.toList.drop 0=dQ (r::R)++10::msg.toList:=l;obtain⟨f,n,p⟩:=pn (r::R) 0 b e (by lia);obtain⟨g,d,c3⟩:=chain (r::R) 0 b e (by lia);have e1:(eO (r::R)).size=r.hd.size+1:=by refine(?_:(eR r.hd).size=_);unfold eR;simp
 have k:0<c.size:=by have:=f.le;lia
 have o:∀a∈R,RowC a:=λa m=>b a (.tail _ m)
 refine⟨j,k, ?_,n,g, ?_, ?_⟩
 ·have:=f;rw[e1,show 0+(r.hd.size+1)-1=r.hd.size by lia]at this;exact this
 ·rw[e1,show((0+(r.hd.size+1):Nat):Int)=((r.hd.size:Nat):Int)+1 by lia]at d;have e2:(Ka r (0+r.len) R).np=(d1 r R).np:=by refine(?_:0+r.len+_-1=r.len+_-1);lia
  have:=d;rw[e2]at this;exact this
 ·have e2:(Ka r (0+r.len) R).np=(d1 r R).np:=by refine(?_:0+r.len+_-1=r.len+_-1);lia
  have:=c3;rw[e2,Nat.zero_add]at this;exact this
theorem wP{x y:UInt8}:∀(n a:Nat),a<n->((List.replicate n [x,y]).flatten)[2*a]?=some x/\((List.replicate n [x,y]).flatten)[2*a+1]?=some y
 |_+1,0,_=>⟨rfl,rfl⟩
 |n+1,a+1,b=>wP n a (Nat.lt_of_succ_lt_succ b)
theorem f5(a:KK):ff (dw a):=by
 refine⟨⟨a.1,a.2,by decide,by decide,λf e=> ?_⟩,(n6 a).2⟩
 have b:dw a=((List.replicate 20 [dM a.1,dM a.2]).flatten).toArray:=by kernel_rfl
 obtain⟨c,d⟩:=wP (x:=dM a.1) (y:=dM a.2) 20 f e;rw[b,Int.toNat_zero,Nat.zero_add,List.getElem?_toArray,List.getElem?_toArray];exact⟨c,d⟩
end
noncomputable def mh(S:Sum)(a:ay):Sum:=match a.k with
 | .parent=>match S.U0 with
  |true=>{S with ps:=S.ps++[a.v]}
  |false=>S
 | .UK=>{S with U0:=false,au:=some a.v}
 | .UL=>{S with U0:=false,co:=some a.v}
 | .encoding=>{S with U0:=false,en:=(match S.en with|none=>some a.v|some b=>some b)}
 | .sig=>{S with U0:=false,sg:=S.sg++[a.v]}
 | .tag=>{S with U0:=false,E:=S.E++[(az .tag,a.v)]}
 | .rename=>{S with U0:=false,E:=S.E++[(az .rename,a.v)]}
 | .tree=>{S with U0:=false}
noncomputable def fw(S:Sum):Wy ay->Sum
 |[]=>S
 |a::R=>fw (mh S a) R
theorem u4:∀(R:Wy ay) (a:Nat) (S:Sum),rO S (jv a R)=fw S R
 |[],_,_=>rfl
 |b::R,a,S=>by
  refine(?_:rO (mF S (Ka b (a+b.len) R)) (jv (a+b.len) R)=fw (mh S b) R);rw[u4 R];rfl
theorem f6:∀(R a:Wy ay) (S:Sum),fw S (R++a)=fw (fw S R) a
 |[],_,_=>rfl
 |b::R,a,S=>f6 R a (mh S b)
theorem n8:∀(a:Wy KK) (S:Sum),S.U0=true->fw S (a.map λk=>lP .parent (dw k))={S with ps:=S.ps++a.map dw}
 |[],S,_=>by simp[fw]
 |k::a,S,b=>by
  refine(?_:fw (mh S (lP .parent (dw k))) (a.map λk=>lP .parent (dw k))=_)
  have c:mh S (lP .parent (dw k))={S with ps:=S.ps++[dw k]}:=by
   refine(?_:(match S.U0 with|true=>{S with ps:=S.ps++[dw k]}|false=>S)=_)
   rw[b]
  rw[c,n8 a _ (by exact b)];simp
theorem qC(a:MM):(f4 a).k= .tag\/(f4 a).k= .rename:=by
 obtain⟨b,c⟩:=a
 match b with
 |0=>exact .inl rfl
 |1=>exact .inr rfl
theorem lU:∀(a:Wy MM) (S:Sum),S.U0=false->fw S (a.map f4)={S with E:=S.E++a.map ho}
 |[],S,_=>by simp[fw]
 |m::a,S,c=>by
  refine(?_:fw (mh S (f4 m)) (a.map f4)=_);have d:mh S (f4 m)={S with E:=S.E++[ho m]}:=by
   rw[<-sS m];have b:=qC m;unfold mh ay.row;rcases b with b|b<;>rw[b]<;>simp[<-c]
  rw[d,lU a _ (by exact c)];simp
theorem In.sum(a:In):fw rP (a.rest++fq a.sg)=⟨a.sd.ps,some (dk a.i1 a.j1 a.z1),some (dk a.i2 a.j2 a.z2),a.sd.en,a.sd.xs,vF a.sd.sg,false⟩:=by
 unfold In.rest;rw[f6,f6,n8 _ _ rfl,f6,f6];refine(?_:fw (fw (fw (⟨[]++a.ks.map dw,some (dk a.i1 a.j1 a.z1),some (dk a.i2 a.j2 a.z2),none,[],[],false⟩:Sum) (ie a.en)) (a.ms.map f4)) (fq a.sg)=_);have e1:fw (⟨[]++a.ks.map dw,some (dk a.i1 a.j1 a.z1),some (dk a.i2 a.j2 a.z2),none,[],[],false⟩:Sum) (ie a.en)=⟨a.ks.map dw,some (dk a.i1 a.j1 a.z1),some (dk a.i2 a.j2 a.z2),a.Vb,[],[],false⟩:=by
  unfold ie In.Vb;cases a.en<;>rfl
 rw[e1,lU _ _ rfl];refine(?_:fw (⟨a.ks.map dw,some (dk a.i1 a.j1 a.z1),some (dk a.i2 a.j2 a.z2),a.Vb,[]++a.ms.map ho,[],false⟩:Sum) (fq a.sg)=⟨a.ks.map dw,_,_,a.Vb,a.ms.map ho,vF a.Vh,false⟩);unfold fq In.Vh;cases a.sg<;>rfl
theorem qD:∀(c:Wy KK) (R:Wy ay) (a b:Bool),x3 ((c.map λk=>lP .parent (dw k))++R) true a b=x3 R true a b
 |[],_,_,_=>rfl
 |k::c,R,a,b=>qD c R a b
theorem n9:∀(R:Wy ay),(∀a∈R,a.k= .encoding\/a.k= .tag\/a.k= .rename\/a.k= .sig)->∀c,x3 R c true true=true
 |[],_,_=>rfl
 |a::R,b,c=>by
  have f:=n9 R λg d=>b g (.tail _ d)
  unfold x3;rcases b a (.head _)with e|e|e|e<;>rw[e]<;>exact f _
theorem iO(c:In):∀b∈(ie c.en++c.ms.map f4)++fq c.sg,b.k= .encoding\/b.k= .tag\/b.k= .rename\/b.k= .sig:=by
 intro b a;simp only[List.mem_append,List.mem_map]at a;rcases a with(a|⟨d,_,rfl⟩)|a
 ·unfold ie at a;split at a
  ·rw[List.mem_singleton]at a;subst a;exact .inl rfl
  ·cases a
 ·rcases qC d with e|e
  ·exact .inr (.inl e)
  ·exact .inr (.inr (.inl e))
 ·unfold fq at a;split at a
  ·cases a
  ·rw[List.mem_singleton]at a;subst a;exact .inr (.inr (.inr rfl))
theorem In.okR(a:In):Mine.x3 (a.rest++fq a.sg) true false false=true:=by unfold In.rest;rw[List.append_assoc,qD,List.append_assoc];exact n9 _ (iO a) _
theorem sU(d:In):∀c∈d.rest++fq d.sg,c.k= .parent->ff c.v:=by
 intro c a b;unfold In.rest at a;rw[List.append_assoc,List.mem_append,List.append_assoc]at a;rcases a with a|a
 ·simp only[List.mem_map]at a;obtain⟨f,_,rfl⟩:=a;exact f5 f
 ·simp only[List.cons_append,List.nil_append,List.mem_cons]at a;rcases a with rfl|rfl|a
  ·cases b
  ·cases b
  ·rcases iO d c a with e|e|e|e<;>rw[e]at b<;>cases b
noncomputable def jj(a:Fin 4):Fin 6:=⟨a.val,by lia⟩
noncomputable def zz(a:Fin 6):Fin 7:=⟨a.val,by lia⟩
noncomputable def BR(a:Fin 4)(b:Fin 6):cl:=xg a++ #[32]++(aC b).1
noncomputable def PZ(b:Fin 3)(c:Fin 4)(d:Fin 6):Bool:=let V:=dk b c d;let a:=(dv b).size-1
 Nat.ble V.size 100 && Nat.ble 2 V.size &&(Builtin.Bytes.rfind? V #[62,32] 0 V.size==some a) &&(V.extract 0 (a+1)==dv b) &&(V.extract (a+2) V.size==BR c d) && Nat.ble (a+2) V.size
theorem FC:∀(a:Fin 3) (b:Fin 4) (c:Fin 6),PZ a b c=true:=by decide+kernel
theorem JC:∀(a:Fin 4) (b:Fin 6),(pK (BR a b) #[32] 1==[(pS (jj a)).1,(iR (zz b)).1])=true:=by decide+kernel
theorem Sv(c:Fin 3)(a:Fin 4)(b:Fin 6):tL (dk c a b) (dv c) (BR a b) ((dv c).size-1) (jj a) (zz b):=by have d:=FC c a b;unfold PZ at d;simp only[Bool.and_eq_true,Nat.ble_eq,beq_iff_eq]at d;obtain⟨⟨⟨⟨⟨i,j⟩,e⟩,f⟩,g⟩,h⟩:=d;exact⟨by lia,by rw[if_neg (by lia)];exact e,f,g,by have:=JC a b;rwa[beq_iff_eq]at this,h⟩
theorem f7(c:Fin 3)(a:Fin 4)(b:Fin 6):h7 u (dk c a b) (uY c a b):=by
 have d:=pY (u:=u) (Sv c a b);have e1:∀a:Fin 4,(pS (jj a)).2=dt.getD a.val 0:=by decide+kernel
 have e2:∀b:Fin 6,(iR (zz b)).2=(aC b).2:=by decide+kernel
 rw[e1,e2]at d;exact d
noncomputable def In.msg(a:In):cl:=sM.getD a.bd.val #[]
noncomputable def In.WQ(a:In):cl:=cz (a.rows.map ay.row) a.msg
noncomputable def In.WN(a:In):eY:=d1 (lP .tree (dw a.k)) (a.rest++fq a.sg)
noncomputable def In.ds(a:In):Wy dm:=jv (lP .tree (dw a.k)).len (a.rest++fq a.sg)
structure In.Ok(x:In):Prop where
 ps:x.ks.length<=3
 ms:x.ms.length<=2
theorem sV(a:In):a.msg.size<=100:=by
 have:∀b:Fin 4,Nat.ble (sM.getD b.val #[]).size 100=true:=by decide+kernel
 have:=this a.bd;rwa[Nat.ble_eq]at this
theorem In.len(a:In)(b:a.Ok):a.rows.length<=20:=by
 have c:(ie a.en).length<=1:=by unfold ie;split<;>simp
 have d:(fq a.sg).length<=1:=by unfold fq;split<;>simp
 have:=b.ps;have:=b.ms;unfold In.rows In.rest;simp;lia
theorem In.text(a:In)(c:a.Ok)(b:cl)(d:b.size<=1000):jw (cz (a.rows.map ay.row) b) b (lP .tree (dw a.k)) (a.rest++fq a.sg):=pp a.WO (by have:=a.len c;unfold In.rows at this;lia) d
theorem In.rd(a:In)(c:a.Ok):d6 u (GC a.sd a.WQ a.WN a.ds) a.sd.sg:=by
 have i:=a.text c a.msg (by have:=sV a;lia);have g:=a.len c;have i:jw a.WQ a.msg (lP .tree (dw a.k)) (a.rest++fq a.sg):=i;have m:d1 (lP .tree (dw a.k)) (a.rest++fq a.sg)=a.WN:=rfl;have f:jv (lP .tree (dw a.k)).len (a.rest++fq a.sg)=a.ds:=rfl;have h:a.WN.r=dw a.k:=rfl;obtain⟨C,H,o,p,q,j,t7⟩:=i;rw[m]at o p q j t7;have l:ff a.WN.r:=by rw[h];exact f5 a.k
 have z:gd a.WQ a.msg a.ds a.WN.lp ((a.WN.np:Int)+1) true false false false 0:=by
  rw[<-f];exact n4 _ _ _ _ _ _ _ _ _ (sU a) (by unfold In.rows at g;simp at g|-;lia) a.okR t7
 have t:kY a.ds ⟨a.sd.ps,some (dk a.i1 a.j1 a.z1),some (dk a.i2 a.j2 a.z2),a.sd.en,a.sd.xs,vF a.sd.sg,false⟩ (dk a.i1 a.j1 a.z1) (dk a.i2 a.j2 a.z2):=by
  refine⟨?_,rfl,rfl, ?_, ?_, ?_⟩
  ·rw[<-f,u4,a.sum]
  ·refine(?_:(a.ks.map dw).length<=3);rw[List.length_map];exact c.ps
  ·refine(?_:(a.ms.map ho).length<=2);rw[List.length_map];exact c.ms
  ·refine(?_:(vF a.Vh).length<=1);unfold In.Vh;cases a.sg<;>simp[vF]
 have v:∀b,a.sd.sg=some b->eI #[10] [b]=b/\b.size<=1000000:=by
  intro b A;refine⟨join_one _ _, ?_⟩;have d:a.sg.map x5=some b:=A;cases n:a.sg with
  |none=>rw[n]at d;cases d
  |some e=>
   rw[n]at d;injection d with s;subst s;have:∀e,Nat.ble (x5 e).size 1000000=true:=by decide+kernel
   have:=this e;rwa[Nat.ble_eq]at this
 have w:h7 u (dk a.i1 a.j1 a.z1) (uY a.i1 a.j1 a.z1):=f7 _ _ _;have x:h7 u (dk a.i2 a.j2 a.z2) (uY a.i2 a.j2 a.z2):=f7 _ _ _;have y:=lh C;unfold GC;rw[h]at j l;clear m f h g t7 c;generalize a.WN=D,a.ds=G,a.WQ=W at*;exact⟨y,o,p,q,j,l,z,t,w,x,v⟩
theorem wD:∀(b:Wy KK) (R:Wy ay) (a:Kd),a= .tree\/a= .parent->(∀e,e= .tree\/e= .parent->GK R e=true)->GK ((b.map λk=>lP .parent (dw k))++R) a=true
 |[],R,a,c,d=>d a c
 |k::b,R,a,c,d=>by
  refine(?_:(kq .parent a && GK ((b.map λk=>lP .parent (dw k))++R) .parent)=true)
  rw[wD b R .parent (.inr rfl) d];rcases c with rfl|rfl<;>rfl
theorem qE:∀(R:Wy ay) (c:Kd),(∀a∈R,a.k= .tag\/a.k= .rename\/a.k= .sig)->GK R c=true
 |[],_,_=>rfl
 |a::R,c,b=>by
  have f:=qE R a.k λg d=>b g (.tail _ d)
  unfold GK;rw[f];rcases b a (.head _)with e|e|e<;>rw[e]<;>rfl
theorem wE(c:In):∀b∈c.ms.map f4++fq c.sg,b.k= .tag\/b.k= .rename\/b.k= .sig:=by
 intro b a;simp only[List.mem_append,List.mem_map]at a;rcases a with⟨d,_,rfl⟩|a
 ·rcases qC d with e|e
  ·exact .inl e
  ·exact .inr (.inl e)
 ·unfold fq at a;split at a
  ·cases a
  ·rw[List.mem_singleton]at a;subst a;exact .inr (.inr rfl)
theorem In.okC(a:In):Mine.GK (a.rest++fq a.sg) .tree=true:=by
 unfold In.rest;rw[List.append_assoc];refine wD _ _ _ (.inl rfl) λb c=> ?_
 rw[List.append_assoc,List.append_assoc];refine(?_:(kq .UK b &&(kq .UL .UK && Mine.GK (ie a.en++(a.ms.map f4++fq a.sg)) .UL))=true);have e1:kq .UK b=true:=by rcases c with rfl|rfl<;>rfl
 rw[e1];refine(?_:Mine.GK (ie a.en++(a.ms.map f4++fq a.sg)) .UL=true);unfold ie;split
 ·refine(?_:(kq .encoding .UL && Mine.GK (a.ms.map f4++fq a.sg) .encoding)=true);rw[qE _ _ (wE a)];rfl
 ·exact qE _ _ (wE a)
theorem In.Wc(a:In)(b:a.Ok)(c:k.size<=1000):nM (cz (a.rows.map ay.row) k) k a.ds a.WN.lp ((a.WN.np:Int)+1) .tree:=sQ _ _ _ _ _ a.okC (a.text b k c).chain
theorem In.r1(a:In)(c:a.Ok)(e:k.size<=1000)(d:dW A (cz (a.rows.map ay.row) k)):mu A (cz (a.rows.map ay.row) k) a.WN:=by have b:=a.text c k e;exact⟨d,b.line,b.sp,b.Vr,b.row⟩
section
noncomputable def u5:Wy ay->Wy Ev
 |[]=>[]
 |a::R=>.row (az a.k) a.v a.l0 a.ls::(a.ls.map .cont++u5 R)
theorem sW{M:Wy dh}{a:Wy Ev}{c:Nat}:∀(b:Wy cl),(∀e∈b,e.size<=100000)->jX M a [] c->jX M (b.map .cont++a) b c
 |[],_,d=>d
 |e::b,f,d=>⟨b,rfl,f e (.head _),sW b (λh g=>f h (.tail _ g)) d⟩
theorem GO{M:Wy dh}:∀(R:Wy ay) (a:Nat),(∀b∈R,RowC b)->M.drop a=R.map ay.row->a<=M.length->jX M (u5 R) [] a
 |[],a,_,c,g=>⟨rfl,by
  have:=congrArg List.length c;simp at this;lia⟩
 |b::R,a,e,c,g=>by
  have d:=e b (.head _);have h:a<M.length:=by
   have:=congrArg List.length c;simp at this;lia
  have f:M[a]?=some (az b.k,b.v):=by
   have:(M.drop a)[0]?=some (az b.k,b.v):=by rw[c];rfl
   simpa using this
  have e2:M.drop (a+1)=R.map ay.row:=by
   rw[<-List.drop_drop,c];rfl
  exact⟨rfl,f,d.w,by have:=d.len;simp;lia,sW b.ls (λl i=>d.w.sz l (.tail _ i)) (GO R (a+1) (λm j=>e m (.tail _ j)) e2 h)⟩
theorem wF:∀(R:Wy ay),(∀a∈R,RowC a)->(u5 R).length<=4*R.length
 |[],_=>Nat.le_refl _
 |a::R,b=>by
  have e:=(b a (.head _)).len;have f:=wF R λd c=>b d (.tail _ c)
  refine(?_:(Ev.row _ _ _ _::(a.ls.map .cont++u5 R)).length<=_);simp;lia
variable {a:Wy ay}
theorem JD{b:ay}(d:M=(b::a).map ay.row)(c:∀e∈b::a,RowC e)(f:(b::a).length<=100):Ih M (u5 (b::a)):=by refine⟨GO _ 0 c (by rw[d];rfl) (Nat.zero_le _),by have:=wF _ c;lia,⟨_,_,_,_,_,rfl⟩⟩
noncomputable def eA(a:Wy cl):Wy UInt8:=(a.map (·.toList)).flatten
theorem pq(a:Wy cl):(eI #[] a).toList=eA a:=by
 have g:∀(a:Wy cl) (b:cl) (c:Nat),((a.zipIdx c).foldl (λ(d:cl) e=>(if e.2>0 then d++(#[]:cl)else d)++e.1) b).toList=b.toList++(a.map (·.toList)).flatten:=λa=>by
  induction a with
  |nil=>intro b c;simp
  |cons h a f=>
   intro b c;rw[List.zipIdx_cons,List.foldl_cons,f];simp only[List.map_cons,List.flatten_cons];split<;>simp
 exact g a #[] 0
theorem sX:∀(a:Wy cl),eA ((a.map Ev.cont).map r6)=dy a
 |[]=>rfl
 |b::a=>by
  have:=sX a;refine(?_:(yg b).toList++eA ((a.map Ev.cont).map r6)=((#[32]++b:cl).toList++[10])++dy a);rw[this];unfold yg;simp
theorem ig(a b:Wy cl):eA (a++b)=eA a++eA b:=by unfold eA;simp
theorem wG:∀(R:Wy ay),(∀a∈R,RowC a)->eA ((u5 R).map r6)=dQ R
 |[],_=>rfl
 |a::R,b=>by
  have f:=wG R λg e=>b g (.tail _ e)
  have c:=b a (.head _);refine(?_:eA (r6 (.row (az a.k) a.v a.l0 a.ls)::(a.ls.map Ev.cont++u5 R).map r6)=(eH a.row).toList++dQ R);rw[List.map_append,c.text,<-f];refine(?_:(ow (az a.k) a.l0).toList++eA ((a.ls.map Ev.cont).map r6++(u5 R).map r6)=_);rw[ig,sX];have d:(ow (az a.k) a.l0).toList=a.hd.toList++[10]:=by
   unfold ow ay.hd;have:eI #[32] [az a.k,a.l0]=(az a.k++ #[32])++a.l0:=by
    refine(?_:((#[]:cl)++az a.k++ #[32])++a.l0=_);simp
   rw[this];simp
  rw[d];simp only[List.append_assoc]
theorem x6(a:cl):eA (vT a)=10::a.toList:=by
 unfold vT;cases b:a.size with
 |zero=>
  have:a.toList=[]:=by
   have:=Array.length_toList (xs:=a);exact List.eq_nil_of_length_eq_zero (by lia)
  rw[this];rfl
 |succ c=>
  refine(?_:(#[10]:cl).toList++(a.toList++[])=_);simp
theorem ii:∀(a:Wy cl) (c:Nat),a.foldl (· + ·.size) c=c+(eA a).length
 |[],c=>by simp[eA]
 |b::a,c=>by
  rw[List.foldl_cons,ii a];refine(?_:_=c+(b.toList++eA a).length);simp;lia
theorem FD(c:∀l∈a,RowC l)(h:a.length<=100)(i:k.size<=1000):s3 (h9 (u5 a) k) (cz (a.map ay.row) k)/\dW (h9 (u5 a) k) (cz (a.map ay.row) k):=by
 have j:=g6 c h i;have f:=n7 a k;have b:eA (h9 (u5 a) k)=(cz (a.map ay.row) k).toList:=by
  unfold h9;rw[ig,wG a c,x6,f]
 have d:eI #[] (h9 (u5 a) k)=cz (a.map ay.row) k:=Array.ext' (by rw[pq,b]);have m:(eA (h9 (u5 a) k)).length<=100000:=by rw[b];simpa using j
 have e:h9 (u5 a) k≠[]:=by
  intro g;have:=congrArg List.length b;rw[g]at this;rw[f]at this;simp[eA]at this
 refine⟨⟨e,d,by lia, ?_⟩,⟨e,d, ?_⟩⟩
 ·rw[ii];refine(?_:0*_+_<=_);lia
 ·rw[ii];lia
end
section
variable {c:cl}
theorem g7(b:0<c.size)(d:k[0]?≠c[0]?):aB k c=false:=by
 unfold aB;split
 ·rfl
 ·rename_i e;rw[<-Bool.not_eq_true,beq_iff_eq];intro a;refine d ?_;rw[<-a,Array.getElem?_extract,if_pos (by rw[<-a]at b;simp at b|-;lia)]
theorem pr{d:cl}(a:k=c++d):aB k c=true:=by subst a;unfold aB;rw[if_neg (by simp;lia),beq_iff_eq];apply Array.ext';rw[Array.toList_extract];simp
theorem mO(a:ay):a.first[0]?=(az a.k)[0]?:=by
 have:=(BP a.k).2.2.1;unfold ay.first ay.hd eR
 rw[Array.getElem?_append,if_pos (by simp;lia),Array.getElem?_append,if_pos (by simp),Array.getElem?_append,if_pos this]
theorem GP(a:cl):(eR (#[32]++a))[0]?=some 32:=by unfold eR;rw[Array.getElem?_append,if_pos (by simp;lia),Array.getElem?_append,if_pos (by decide)];rfl
theorem BS(a:Kd)(b:a≠ .sig):(az a)[0]?≠(az .sig)[0]?:=by cases a<;>first|exact absurd rfl b|decide+kernel
theorem GQ(a:Kd):(az a)[0]?≠(#[10]:cl)[0]?:=by cases a<;>decide+kernel
noncomputable def gh:Wy ay->Wy cl
 |[]=>[]
 |a::R=>a.first::(a.ls.map λb=>eR (#[32]++b))++gh R
theorem oa:∀(b:Wy cl),eA (b.map λa=>eR (#[32]++a))=dy b
 |[]=>rfl
 |a::b=>by
  have:=oa b;refine(?_:(eR (#[32]++a)).toList++eA (b.map λa=>eR (#[32]++a))=((#[32]++a:cl).toList++[10])++dy b)
  rw[this];unfold eR;simp
theorem mi:∀(R:Wy ay),(∀a∈R,RowC a)->eA (gh R)=dQ R
 |[],_=>rfl
 |a::R,c=>by
  have e:=mi R λf d=>c f (.tail _ d)
  refine(?_:eA ((a.first::(a.ls.map λb=>eR (#[32]++b)))++gh R)=(eH a.row).toList++dQ R)
  rw[ig,e,(c a (.head _)).text];refine(?_:(a.first.toList++eA (a.ls.map λb=>eR (#[32]++b)))++_=_)
  rw[oa];unfold ay.first eR
  simp
theorem sY{k:cl}{S:Wy UInt8}{a:WE}(l:k.size<=1000000):∀(c:Wy cl) (d:Nat) (f:Wy cl),(∀b∈c,(10:UInt8)∉b.toList)->k.toList.drop d=dy c++S->f.length+c.length<=1000000->(k.toList.drop (d+(dy c).length)=S->pd k false ((d+(dy c).length:Nat):Int) (f++c.map λb=>eR (#[32]++b)) a)->pd k false (d:Nat) f a
 |[],d,f,_,h,_,g=>by simpa[dy]using g h
 |b::c,d,f,j,h,i,g=>by
  have n:k.toList.drop d=((#[32]++b:cl).toList++[10])++(dy c++S):=by rw[h];refine(?_:_++dy c++S=_);rw[List.append_assoc]
  have o:(10:UInt8)∉(#[32]++b:cl).toList:=by
   have:=j b (.head _);simp only[Array.toList_append,List.mem_append];rintro(e|e)
   ·exact absurd e (by decide)
   ·exact this e
  obtain⟨r,p⟩:=e4 n o l;have m:d+(dy (b::c)).length=d+(#[32]++b:cl).size+1+(dy c).length:=by
   refine(?_:d+(((#[32]++b:cl).toList++[10])++dy c).length=_);simp;lia
  rw[m]at g;refine .keep r (g7 (by decide) (by rw[GP];decide+kernel)) (g7 (by decide) (by rw[GP];decide)) (by simp at i;lia) ?_;have:=sY l c (d+(#[32]++b:cl).size+1) (f++[eR (#[32]++b)]) (λt s=>j t (.tail _ s)) p (by simp at i|-;lia) λq=>by
   have:=g q;simpa using this
  rw[show(((d+(#[32]++b:cl).size:Nat):Int)+1)=((d+(#[32]++b:cl).size+1:Nat):Int) by lia];exact this
theorem GR{S:Wy UInt8}{a:WE}(p:k.size<=1000000)(c:Wy ay):∀(d:Nat) (e:Wy cl),(∀b∈c,RowC b)->(∀b∈c,b.k≠ .sig)->k.toList.drop d=dQ c++S->e.length+4*c.length<=1000000->(k.toList.drop (d+(dQ c).length)=S->pd k false ((d+(dQ c).length:Nat):Int) (e++gh c) a)->pd k false (d:Nat) e a:=by
 induction c with
 |nil=>
  intro d e _ _ g _ i;have:=i g;rw[show gh []=[]from rfl,List.append_nil]at this;exact this
 |cons b c x=>
  intro d e m o g s i;have f:=m b (.head _);have r:k.toList.drop d=(b.hd.toList++[10])++(dy b.ls++(dQ c++S)):=by
   rw[g];refine(?_:((eH b.row).toList++dQ c)++_=_);rw[f.text];simp only[List.append_assoc]
  obtain⟨w,t⟩:=e4 r f.n0 p;have e2:(dQ (b::c)).length=b.hd.size+1+(dy b.ls).length+(dQ c).length:=by
   refine(?_:((eH b.row).toList++dQ c).length=_);rw[f.text];simp;lia
  have y:=f.len;simp only[List.length_cons]at s;refine .keep w (g7 (by decide) (by rw[show eR b.hd=b.first from rfl,mO];exact BS _ (o b (.head _)))) (g7 (by decide) (by rw[show eR b.hd=b.first from rfl,mO];exact GQ _)) (by lia) ?_;rw[show(((d+b.hd.size:Nat):Int)+1)=((d+b.hd.size+1:Nat):Int) by lia];refine sY p b.ls _ _ f.ns t (by simp;lia) λv=> ?_
  refine x _ _ (λl h=>m l (.tail _ h)) (λl h=>o l (.tail _ h)) v (by simp;lia) λn=> ?_
  have e3:d+b.hd.size+1+(dy b.ls).length+(dQ c).length=d+(dQ (b::c)).length:=by lia
  rw[e3]at n|-;have:=i n;have q:e++[eR b.hd]++(b.ls.map λj=>eR (#[32]++j))++gh c=e++gh (b::c):=by
   refine(?_:_=e++((b.first::(b.ls.map λj=>eR (#[32]++j)))++gh c))
   simp[ay.first]
  rw[q];exact this
theorem x7(b:a<=k.size):k.extract (dE (some (a:Int)) k.size 0).toNat (dE none k.size k.size).toNat=k.extract a k.size:=by rw[TW b];rfl
theorem GS{k:cl}{S:Wy UInt8}{a:WE}{A:Wy cl}(j:k.size<=1000000):∀(f:Wy cl) (b:Nat),(∀c∈f,(10:UInt8)∉c.toList)->k.toList.drop b=dy f++S->(k.toList.drop (b+(dy f).length)=S->pd k true ((b+(dy f).length:Nat):Int) A a)->pd k true (b:Nat) A a
 |[],b,_,h,g=>by simpa[dy]using g h
 |c::f,b,i,h,g=>by
  have m:k.toList.drop b=((#[32]++c:cl).toList++[10])++(dy f++S):=by rw[h];refine(?_:_++dy f++S=_);rw[List.append_assoc]
  have n:(10:UInt8)∉(#[32]++c:cl).toList:=by
   have:=i c (.head _);simp only[Array.toList_append,List.mem_append];rintro(e|e)
   ·exact absurd e (by decide)
   ·exact this e
  obtain⟨p,o⟩:=e4 m n j;have l:b+(dy (c::f)).length=b+(#[32]++c:cl).size+1+(dy f).length:=by
   refine(?_:b+(((#[32]++c:cl).toList++[10])++dy f).length=_);simp;lia
  rw[l]at g;refine .cont p (pr (d:=c++ #[10]) (by unfold eR;simp)) ?_;rw[show(((b+(#[32]++c:cl).size:Nat):Int)+1)=((b+(#[32]++c:cl).size+1:Nat):Int) by lia];exact GS j f _ (λr q=>i r (.tail _ q)) o g
end
section
variable {a:Wy UInt8}
theorem BU(g:l.size<=1000000)(b:l.toList.drop e=10::a):dA l (e:Nat) #[10] e/\l.extract (dE (some (e:Int)) l.size 0).toNat (dE none l.size l.size).toNat=⟨10::a⟩:=by
 have d:l.toList.drop e=((#[]:cl).toList++[10])++a:=b;obtain⟨c,_⟩:=e4 d (by simp) g;have f:e<=l.size:=by have:=c.le;lia
 refine⟨c, ?_⟩;rw[x7 f];apply Array.ext';rw[Array.toList_extract];refine(?_:(l.toList.drop e).take _=_);rw[b,List.take_of_length_le];rw[<-b];simp
theorem BV(d:In):∀b∈d.rest,b.k≠ .sig:=by
 intro b a;unfold In.rest at a;simp only[List.mem_append,List.mem_map,List.mem_cons,List.not_mem_nil,or_false]at a;rcases a with⟨f,_,rfl⟩|(rfl|rfl)|a|⟨c,_,rfl⟩
 ·exact λe=>nomatch e
 ·exact λe=>nomatch e
 ·exact λe=>nomatch e
 ·unfold ie at a;split at a
  ·rw[List.mem_singleton]at a;subst a;exact λe=>nomatch e
  ·cases a
 ·rcases qC c with e|e<;>rw[e]<;>exact λe=>nomatch e
theorem bQ:∀(R:Wy ay),(∀a∈R,RowC a)->(gh R).length<=4*R.length
 |[],_=>Nat.le_refl _
 |a::R,b=>by
  have f:=(b a (.head _)).len;have g:=bQ R λe c=>b e (.tail _ c)
  refine(?_:(a.first::(a.ls.map λd=>eR (#[32]++d))++gh R).length<=_)
  simp;lia
theorem Kb:aB (#[10]:cl) (az .sig)=false/\aB (#[10]:cl) #[10]=true/\aB (#[10]:cl) #[32]=false:=by decide+kernel
theorem strip_end(b:Bool)(h:l.size<=1000000)(g:l.toList.drop e=10::a)(c:A.length<=1000000):pd l b (e:Nat) A ⟨b,e,(e:Int)+1,A++[⟨10::a⟩]⟩:=by
 obtain⟨d,f⟩:=BU h g;cases b with
 |false=>exact .Wk d Kb.1 Kb.2.1 f c
 |true=>exact .Wd d Kb.2.2 Kb.1 Kb.2.1 f c
variable {b:ay}
theorem BW(c:RowC b)(n:b.k= .sig)(f:l.size<=1000000)(h:l.toList.drop e=(eH b.row).toList++10::a)(j:A.length<=1000000):pd l false (e:Nat) A ⟨true,((e+b.hd.size+1+(dy b.ls).length:Nat):Int),((e+b.hd.size+1+(dy b.ls).length:Nat):Int)+1,A++[⟨10::a⟩]⟩:=by
 have i:l.toList.drop e=(b.hd.toList++[10])++(dy b.ls++10::a):=by
  rw[h,c.text];simp only[List.append_assoc]
 obtain⟨o,g⟩:=e4 i c.n0 f;refine .sig o ?_ ?_
 ·refine pr (d:=(#[32]++b.l0)++ #[10]) ?_;unfold eR ay.hd;rw[n];simp only[Array.append_assoc]
 ·rw[show(((e+b.hd.size:Nat):Int)+1)=((e+b.hd.size+1:Nat):Int) by lia];exact GS f b.ls _ c.ns g λm=>strip_end true f m j
theorem JE(b:In):∀a∈b.rest,RowC a:=λa c=>b.c0 a (.tail _ c)
theorem x8(b:In):fq b.sg=[]\/∃a,fq b.sg=[a]/\RowC a/\a.k= .sig:=by
 cases b.sg with
 |none=>exact .inl rfl
 |some c=>exact .inr ⟨JA c,rfl,GL c,rfl⟩
theorem x9(a b:Wy ay):dQ (a++b)=dQ a++dQ b:=by unfold dQ;simp
theorem kx(b:ay)(a:Wy ay):dQ (b::a)=(eH b.row).toList++dQ a:=rfl
theorem BX{c d:Wy ay}{a B:cl}(g:RowC b)(p:b.ls=[])(tk:b.k≠ .sig)(cR:∀e∈c,RowC e)(o:∀e∈c,e.k≠ .sig)(t:d=[]\/∃e,d=[e]/\RowC e/\e.k= .sig)(C:c.length<=20)(w:l.toList=dQ (b::(c++d))++10::a.toList)(x:B.toList=dQ (b::c)++10::a.toList)(G:l.size<=100000)(H:B.size<=100000):∃f,k7 l B f:=by
 have D:=bQ c cR;have s:l.toList.drop 0=(b.hd.toList++[10])++(dQ c++(dQ d++10::a.toList)):=by
  rw[List.drop_zero,w,kx,g.text,p,x9];simp[dy]
 obtain⟨A,h⟩:=e4 s g.n0 (by lia);have e1:aB b.first (az .sig)=false:=g7 (by decide) (by rw[mO];exact BS _ tk)
 have e2:aB b.first #[10]=false:=g7 (by decide) (by rw[mO];exact GQ _)
 have m:([b.first]++gh c).length<=1000000:=by simp;lia
 have z:∃f:WE,f.bs=([b.first]++gh c)++[⟨10::a.toList⟩]/\pd l false ((0+b.hd.size+1:Nat):Int) [b.first] f:=by
  rcases t with rfl|⟨e,rfl,q,v⟩
  ·exact⟨⟨false,_,_,_⟩,rfl,GR (by lia) c _ _ cR o h (by simp;lia) λi=>strip_end false (by lia) i m⟩
  ·have r:dQ [e]=(eH e.row).toList:=by rw[kx];exact List.append_nil _
   rw[r]at h;exact⟨⟨true,_,_,_⟩,rfl,GR (by lia) c _ _ cR o h (by simp;lia) λi=>BW q v (by lia) i m⟩
 obtain⟨f,j,y⟩:=z;have n:eA (([b.first]++gh c)++[⟨10::a.toList⟩])=B.toList:=by
  rw[ig,ig,mi _ cR,x,kx,g.text,p];unfold ay.first eR eA
  simp[dy]
 refine⟨f,⟨_,_,A,e1,e2, ?_⟩,⟨?_, ?_,by lia, ?_⟩⟩
 ·rw[show((0+b.hd.size:Nat):Int)+1=((0+b.hd.size+1:Nat):Int) by lia];exact y
 ·rw[j];simp
 ·rw[j];exact Array.ext' (by rw[pq,n])
 ·rw[j,ii,n];refine(?_:0*_+_<=_);simp;lia
theorem In.strip(b:In)(f:b.Ok){a:cl}(d:a.size<=1000):∃l,k7 (cz (b.rows.map ay.row) a) (cz (b.rows0.map ay.row) a) l:=by
 have c:=b.len f;have h:=g6 b.WO (by lia) d;have j:=n7 b.rows a;have k:=n7 b.rows0 a;have i:=g6 b.c0 (R:=b.rows0) (by unfold In.rows0;unfold In.rows at c;simp at c|-;lia) d;have g:b.rest.length<=20:=by unfold In.rows at c;simp at c;lia
 exact BX (b.WO _ (.head _)) rfl (λe=>nomatch e) (JE b) (BV b) (x8 b) g j k h i
end
section
noncomputable def In.TZ(a:In):Wy dh:=a.rows.map ay.row
noncomputable def In.Vp(a:In):Wy Ev:=u5 a.rows
structure BY(u:WB)(x:In)(vs:ug)(fb p:Int)(e:Bool):Prop where
 ok:∀(z:nZ) cc a tq l,z.T=x.sd.tree->z.msg=x.sd.body->z.ss.vs=vs->z.ss.fb=fb->z.place=p->z.XS.size=x.TZ.length->OK u (n2 (Pm u) z x.sd.ps x.TZ cc a tq l e)
theorem In.Wm(a:In)(b:a.Ok):xM a.sd=a.TZ:=a.fin b.ms
theorem In.evR(a:In)(b:a.Ok):Ih a.TZ a.Vp:=JD rfl a.WO (by have:=a.len b;unfold In.rows at this;lia)
theorem In.V0(b:In):ko b.sd.en:=λe d=>by
 have a:b.Vb=some e:=d;unfold In.Vb at a;split at a
 ·injection a with c;subst c;decide
 ·cases a
theorem In.VJ(b:In):ko b.sd.sg:=λg f=>by
 have a:b.sg.map x5=some g:=f;cases c:b.sg with
 |none=>rw[c]at a;cases a
 |some d=>
  rw[c]at a;injection a with e;subst e;cases d<;>decide
variable {a:SD}
theorem In.VY(b:In)(c:b.Ok)(e1:a.ps=b.sd.ps)(e2:a.xs=b.sd.xs)(e3:a.en=b.sd.en)(d:a.sg=b.sd.sg)(e:a.body.size<=1000000)(e6:xM a=xM b.sd):mr a b.Vp:=by
 refine⟨?_, ?_,by rw[e3];exact b.V0,by rw[d];exact b.VJ,e,by rw[e6,b.Wm c];exact b.evR c⟩
 ·rw[e1];refine(?_:(b.ks.map dw).length<=3);rw[List.length_map];exact c.ps
 ·rw[e2];refine(?_:(b.ms.map ho).length<=2);rw[List.length_map];exact c.ms
theorem dK(a:In):a.sd.body.size<=100:=sV a
theorem In.ch(a:In)(b:a.Ok){msg:cl}(c:msg.size<=1000):s3 (h9 a.Vp msg) (cz a.TZ msg)/\dW (h9 a.Vp msg) (cz a.TZ msg):=FD a.WO (by have:=a.len b;lia) c
theorem li{a:Wy ay}(f:∀b∈a,RowC b)(i:a≠[])(n:a.length<=100)(o:k.size<=1000):OK u (eN c d H (a.map ay.row) k e):=by
 have r:=g6 f n o;have m:∀b∈a.map ay.row,kg b:=λb g=>by
  rw[List.mem_map]at g;obtain⟨h,l,rfl⟩:=g;exact(f h l).fit
 have p:((a.map ay.row).map eH).foldl (· + ·.size) 0<=16777216:=by
  rw[ii];have q:=lT a f;have j:eA ((a.map ay.row).map eH)=dQ a:=by unfold eA dQ;rw[List.map_map,List.map_map];rfl
  rw[j];lia
 exact yZ m (by simpa using i) (by rw[List.length_map];lia) (by lia) p
theorem In.ne(a:In):a.rows≠[]:=by unfold In.rows;simp
theorem BZ(b:a.xs=[]):v0 a=a:=by obtain⟨e,g,m,f,h,n,k,i,d,l,j,c⟩:=a;simp only at b;subst b;rfl
variable {c:ui}
theorem Uy{a:In}(i:a.Ok)(m:BY u a H r s D){b:fD}(x:b.q.ss.vs=H)(y:b.q.ss.fb=r)(z:b.q.place=s)(A:b.q.XS.size=a.TZ.length)(C:b.W=cz a.TZ a.sd.body):OK u (qx (Pm u) b a.sd a.sd.en a.sd.sg a.sd.xs.length (aC a.sd.z1).2.2 (aC a.sd.z2).2.2 a.TZ d v e c D):=by
 have h:∀g:nZ,g.T=a.sd.tree->g.msg=a.sd.body->g.ss=b.q.ss->g.place=b.q.place->g.XS=b.q.XS->OK u (n2 (Pm u) g a.sd.ps a.TZ d v e c D):=λg n o l p t=>m.ok g d v e c n o (by rw[l];exact x) (by rw[l];exact y) (by rw[p];exact z) (by rw[t];exact A)
 have j:a.sd.xs.length<=2:=by refine(?_:(a.ms.map ho).length<=2);rw[List.length_map];exact i.ms
 have I:mr a.sd a.Vp:=a.VY i rfl rfl rfl rfl (by have:=dK a;lia) rfl;have G:=(a.ch i (msg:=a.sd.body) (by have:=dK a;lia)).1;generalize a.sd=f at*
 match k:f.xs,j with
 |[],_=>
  cases e1:(aC f.z1).2.2 with
  |true=>exact Fg (z1:=true) h
  |false=>
   cases e2:(aC f.z2).2.2 with
   |true=>exact Fh (z1:=true) (z2:=true) h
   |false=>
    refine Fj h ?_;have w:v1 f f.en f.sg=f:=by
     refine(?_:v0 f=f);exact BZ k
    rw[w,<-Jn e1 e2,C];have:=PA (u:=u) (q:=b.md) (v:=f) e1 e2 (by rw[BZ k];exact I) G;rw[BZ k]at this;exact this
 |[J],_=>exact Fe h
 |[J,L],_=>exact Ff h
 |_::_::_::_,j=>exact absurd j (by simp)
theorem Uz{a:In}(f:a.Ok)(j:BY u a H r s D){b:sI}(n:b.y.q.ss.vs=H)(o:b.y.q.ss.fb=r)(p:b.y.q.place=s)(t:b.y.q.XS.size=a.TZ.length)(h:b.y.W=cz a.TZ a.sd.body)(w:b.bs=h9 a.Vp a.sd.body):OK u (Fk (Pm u) b a.sd a.sd.xs.length (aC a.sd.z1).2.2 (aC a.sd.z2).2.2 a.TZ a.Vp d v e c D):=by
 have x:=(a.ch f (msg:=a.sd.body) (by have:=dK a;lia)).1;have i:hO.size<=1000:=by decide
 refine Jo (by rw[w,h];exact x) (a.VY f rfl rfl rfl rfl (by refine(?_:hO.size<=_);lia) rfl) (a.ch f i).1 (λz=>li a.WO a.ne (by have:=a.len f;lia) i) λA g k l m=>Uy f j (by rw[g];exact n) (by rw[g];exact o) (by rw[k];exact p) (by rw[l];exact t) (by rw[m];exact h)
end
section
theorem In.rdW(a:In)(b:a.Ok):d6 u (GC a.sd (cz a.TZ a.sd.body) a.WN a.ds) a.sd.sg:=a.rd b
theorem In.Vm(a:In)(b:a.Ok):a.sd.ps.length<=3:=by refine(?_:(a.ks.map dw).length<=3);rw[List.length_map];exact b.ps
theorem In.VV(a:In)(b:a.Ok):a.sd.xs.length<=2:=by refine(?_:(a.ms.map ho).length<=2);rw[List.length_map];exact b.ms
theorem In.fc(a:In)(d:a.Ok)(b:CQ)(e1:b.bs=h9 a.Vp a.sd.body)(e2:b.T=a.sd.tree)(e3:b.A=dv a.sd.i1)(j:b.C=dv a.sd.i2):OK u (ED (Pm u) b a.sd.ps (dt.getD a.sd.j1.val 0) (dt.getD a.sd.j2.val 0) c v e L):=by
 have f:a.sd.body.size<=1000:=by have:=dK a;lia
 have n:ff b.T:=by rw[e2];exact f5 a.k
 have l:∀g∈a.sd.ps,ff g:=λg k=>by
  have i:g∈a.ks.map dw:=k;rw[List.mem_map]at i;obtain⟨o,_,rfl⟩:=i;exact f5 o
 have m:mu b.bs (cz a.TZ a.sd.body) a.WN:=by
  rw[e1];exact a.r1 d f (a.ch d f).2
 exact IT ⟨a.Vm d,l,n⟩ (by rw[e3];exact λh p=>A1 _) (by rw[j];exact λh p=>A1 _) (λh=>uN _) (λh=>uN _) m (a.Wc d f)
variable {a:In}
theorem UA(f:a.Ok)(j:BY u a H r s D){b:sI}(o:b.y.q.ss.vs=H)(p:b.y.q.ss.fb=r)(t:b.y.q.place=s)(w:b.y.q.XS.size=a.TZ.length)(h:b.y.W=cz a.TZ a.sd.body)(i:b.bs=h9 a.Vp a.sd.body):OK u (Fl (Pm u) b a.sd a.sd.xs.length (aC a.sd.z1).2.2 (aC a.sd.z2).2.2 a.TZ c v e L D):=by
 have x:=(a.ch f (msg:=a.sd.body) (by have:=dK a;lia)).1;refine Jp (d:=a.WN) (ds:=a.ds) (Vp:=a.Vp) ?_ λz g k l m n=>Uz f j (by rw[g];exact o) (by rw[g];exact p) (by rw[k];exact t) (by rw[l];exact w) (by rw[m];exact h) (by rw[n];exact i)
 rw[h,i];exact OV x (a.rdW f) (a.Vm f) (.inl ⟨_,_,rfl,rfl⟩) ⟨_,_,rfl,rfl⟩
noncomputable def In.Ba(a:In):cl:=cz (a.rows0.map ay.row) a.sd.body
theorem UB(d:a.Ok)(i:BY u a H r s D){b:Jq}(o:b.y.q.ss.vs=H)(p:b.y.q.ss.fb=r)(q:b.y.q.place=s)(t:b.y.q.XS.size=a.TZ.length)(f:b.y.W=cz a.TZ a.sd.body)(w:b.Ba=a.Ba):OK u (BD (Pm u) b a.sd a.sd.xs.length (aC a.sd.z1).2.2 (aC a.sd.z2).2.2 a.TZ c v e L D):=by
 have h:a.sd.body.size<=1000:=by have:=dK a;lia
 have x:=(a.ch d h).1;obtain⟨G,A⟩:=a.strip d h;have z:mr a.sd a.Vp:=a.VY d rfl rfl rfl rfl (by lia) rfl;exact Jr (ze:=G) z (by rw[f];exact x) (by rw[f,w];exact A) (λC e1 e2 e3 n=>a.fc d C e1 e2 e3 n) λI g j k l m=>UA d i (by rw[g];exact o) (by rw[g];exact p) (by rw[j];exact q) (by rw[k];exact t) (by rw[l];exact f) m
theorem UC(g:a.Ok)(i:BY u a H r s D){b:s4}(j:b.y.q.ss.vs=H)(k:b.y.q.ss.fb=r)(l:b.y.q.place=s)(m:b.y.q.XS.size=a.TZ.length)(h:b.y.W=cz a.TZ a.sd.body)(n:b.Ba=a.Ba):OK u (BG (Pm u) b f d a.sd a.sd.xs.length (aC a.sd.z1).2.2 (aC a.sd.z2).2.2 a.TZ c v e L D):=by
 have o:a.sd.body.size<=1000:=by have:=dK a;lia
 have p:=g6 a.WO (by have:=a.len g;lia) o;refine Ju (Jt ?_ ?_)
 ·refine(?_:s3 [b.y.W] b.y.W);rw[h];exact Su p
 ·exact UB g i j k l m h n
variable {b:fD}
theorem yh(e:a.Ok)(k:BY u a H r s D)(p:b.q.ss.vs=H)(t:b.q.ss.fb=r)(v:b.q.place=s)(i:b.q.XS.size=(a.rows0.map ay.row).length)(g:b.W=cz a.TZ a.sd.body):OK u (u0 (Pm u) b a.Ba c a.sd a.sd.xs.length (aC a.sd.z1).2.2 (aC a.sd.z2).2.2 (a.rows0.map ay.row) D (PL a.sd.sg b.q.XS) (Cb a.sd.sg)):=by
 have w:a.sd.body.size<=1000:=by have:=dK a;lia
 have j:=a.len e;have I:a.rows0.length<=20:=by unfold In.rows0;unfold In.rows at j;simp at j|-;lia
 have f:d9 (a.rows0.map ay.row) a.sd.sg (az .sig)=a.TZ:=by rw[a.VT,<-a.map];rfl
 refine Fs (d:=a.WN) (ds:=a.ds) i (by rw[i,List.length_map];lia) (by rw[f,g]) ?_ ?_ ?_
 ·rw[f];exact λx C M y=>li a.WO a.ne (by lia) w
 ·rw[g];exact λy=>H1 (a.rdW e) (a.Vm e) ⟨_,_,rfl,rfl⟩ ⟨_,_,rfl,rfl⟩
 ·rw[f];exact λN J G A z L x h l m n o=>UC e k (by rw[h];exact p) (by rw[h];exact t) (by rw[l];exact v) m (by rw[n];exact g) o
theorem UD(c:a.Ok)(g:BY u a H r s D)(l:b.q.ss.vs=H)(m:b.q.ss.fb=r)(n:b.q.place=s)(o:b.W=cz a.TZ a.sd.body):OK u (u1 (Pm u) b a.Ba a.sd (aC a.sd.z1).2.2 (aC a.sd.z2).2.2 (j4 a.sd) D (PO a.sd.en b.q.XS) (Cb a.sd.en)):=by
 have t:a.sd.body.size<=1000:=by have:=dK a;lia
 have f:=a.len c;have w:a.rows0.length<=20:=by unfold In.rows0;unfold In.rows at f;simp at f|-;lia
 have k:a.rows0≠[]:=by unfold In.rows0;simp
 have d:d9 (j4 a.sd) a.sd.en (az .encoding)++a.sd.xs=a.rows0.map ay.row:=a.VT.symm;have p:(j4 a.sd).length<=900:=by
  have:=a.Vm c;unfold j4 jP;simp;lia
 refine Fu p (a.VV c) (by rw[d];rfl) ?_ ?_
 ·rw[d];exact λx v A y=>li a.c0 k (by lia) t
 ·rw[d];exact λC z e h i j=>yh c g (by rw[e];exact l) (by rw[e];exact m) (by rw[h];exact n) i (by rw[j];exact o)
end
section
structure FE(vs:ug)(fb:Int)(x:In):Prop where
 ok:x.Ok
 k1:dD vs 0 fb 16=(x.k.1.val:Nat)
 k2:dD vs (0+1) fb 16=(x.k.2.val:Nat)
 n:dD vs (0+1+1) fb 4=(x.sd.ps.length:Nat)
 ks:qs (Cc 0 vs fb λω=>0) (0+1+1+1) x.ks
 dr:∃kE,drawn (Cc 0 vs fb λω=>0) (ib (0+1+1+1) x.sd.ps.length) x.sd kE x.ms/\Fw[kE]?=some x.sd.en
 sg:∃k3:Nat,dD vs (p7 (ib (0+1+1+1) x.sd.ps.length) x.sd.xs.length) fb 3=(k3:Nat)/\Ft[k3]?=some x.sd.sg
 bd:∃k4:Nat,dD vs (p7 (ib (0+1+1+1) x.sd.ps.length) x.sd.xs.length+1) fb 4=(k4:Nat)/\sM[k4]?=some x.sd.body
noncomputable def JF(a:In):Int:=p7 (ib (0+1+1+1) a.sd.ps.length) a.sd.xs.length+1+1
theorem jx:∀(n:Nat) (a:Int),0<=a->0<=ib a n
 |0,a,b=>b
 |n+1,a,b=>jx n (a+1+1) (by lia)
theorem B0{p:Int}{n:Nat}(a:0<=p):0<=p7 p n:=jx n _ (by lia)
theorem B1{s s':SS}{c:SD}{b:Wy MM}(d:s'.vs=s.vs)(e:s'.fb=s.fb)(o:drawn s q c a b):drawn s' q c a b:=by obtain⟨f,g,h,i,j,k,l,m,n⟩:=o;unfold drawn;rw[d,e];exact⟨f,g,h,i,j,k,l,m,qz d e n⟩
variable {b:fD} {a:In}
theorem c7(d:FE H r a)(o:H.size<=2^24)(l:hB H)(h:BY u a H r (JF a) D)(c:b.q.ss.vs=H)(f:b.q.ss.fb=r)(e:b.q.place=p7 (ib (0+1+1+1) a.sd.ps.length) a.sd.xs.length)(k:b.W=cz a.TZ a.sd.body):OK u (J7 (Pm u) b a.Ba a.sd (aC a.sd.z1).2.2 (aC a.sd.z2).2.2 D):=by obtain⟨s,s1,x⟩:=d.sg;obtain⟨t,v,w⟩:=d.bd;have m:=B0 (p:=ib (0+1+1+1) a.sd.ps.length) (n:=a.sd.xs.length) (jx _ _ (by decide));refine PP (k3:=s) (k4:=t) ⟨by rw[c];exact o,by rw[c];exact l⟩ (by rw[e];exact m) (by rw[c,f,e];exact s1) (by rw[c,f,e];exact v) x w (a.Vm d.ok) rfl rfl ?_;exact λy g i j=>UD d.ok h (by rw[g];exact c) (by rw[g];exact f) (by rw[i,e];rfl) (by rw[j];exact k)
theorem c3(e:FE H r a)(i:H.size<=2^24)(h:hB H)(j:BY u a H r (JF a) D)(d:b.q.ss.vs=H)(g:b.q.ss.fb=r)(f:b.q.place=ib (0+1+1+1) a.sd.ps.length)(m:b.W=cz a.TZ a.sd.body):OK u (J8 (Pm u) b a.Ba a.sd D):=by
 obtain⟨J,l,x⟩:=e.dr;have I:nX b.q.ss:=⟨by rw[d];exact i,by rw[d];exact h⟩;have G:0<=b.q.place:=by rw[f];exact jx _ _ (by decide)
 have z:drawn b.q.ss b.q.place a.sd J a.ms:=by
  have:=B1 (s:=Cc 0 H r λω=>0) (s':=b.q.ss) d g l
  rw[f];exact this
 have y:a.ms.map ho=a.sd.xs:=rfl;have A:∀c:fD,c.q.ss=b.q.ss->c.q.place=p7 b.q.place a.sd.xs.length->c.W=b.W->OK u (J7 (Pm u) c a.Ba a.sd (aC a.sd.z1).2.2 (aC a.sd.z2).2.2 D):=λc k n o=>by
  have p:c.q.ss.vs=H:=by rw[k];exact d
  have t:c.q.ss.fb=r:=by rw[k];exact g
  have v:c.q.place=p7 (ib (0+1+1+1) a.sd.ps.length) a.sd.xs.length:=by rw[n,f]
  have w:c.W=cz a.TZ a.sd.body:=by rw[o];exact m
  exact c7 e i h j p t v w
 have C:=a.VV e.ok;clear e j m f l d g i h;exact PT I G z x y C A
theorem Sw{b:ug}{d:Wy (Int×Nat)}(i:H.toList=wd d)(I:d.length<=1000000)(j:H.extract 0 (min 60 H.size)=b)(C:(nT (d.map (·.1))).fmod 997=r)(h:hB b)(g:FE b r a)(m:BY u a b r (JF a) D):OK u (Jy c e H D):=by
 have M:H.size=d.length:=by
  have x:∀c:Wy (Int×Nat),(wd c).length=c.length:=λc=>by
   induction c with
   |nil=>rfl
   |cons N c L=>show(wd c).length+1=_;rw[L];rfl
  have:=congrArg List.length i;rw[x]at this;simpa using this
 have l:b.size<=16777216:=by rw[<-j,Array.size_extract];lia
 have J:H.size<=1000000:=by lia
 have A:dw a.k=a.sd.tree:=rfl;have z:a.ks.map dw=a.sd.ps:=rfl;have y:=a.Vm g.ok;have G:∀f:fD,f.q.ss.vs=b->f.q.ss.fb=r->f.q.place=ib (0+1+1+1) a.sd.ps.length->f.W=cz a.TZ a.sd.body->OK u (J8 (Pm u) f a.Ba a.sd D):=λf n o p s=>c3 g l h m n o p s
 obtain⟨_,d1,t,v,w,_,_,_⟩:=g;exact Jz i I J j C l h A d1 t v z w y G
end
section
noncomputable def yi(d:ug)(a c:Int)(b:Nat):Nat:=(dD d c a (b:Nat)).toNat
variable {n:Nat} {fb p:Int} {vs:ug}
theorem hP(a:0<n):yi vs fb p n<n:=by have:=l6 (vs:=vs) (place:=p) (fb:=fb) (n:=(n:Nat)) (by lia);unfold yi;lia
theorem eP(a:0<n):dD vs p fb (n:Nat)=(yi vs fb p n:Nat):=by have:=l6 (vs:=vs) (place:=p) (fb:=fb) (n:=(n:Nat)) (by lia);unfold yi;lia
theorem GU{x:SS}:∀(n:Nat) (a:Int),∃b:Wy KK,b.length=n/\qs x a b
 |0,a=>⟨[],rfl,cg⟩
 |n+1,a=>by
  obtain⟨b,c,d⟩:=GU (x:=x) n (a+1+1);exact⟨(⟨_,hP (vs:=x.vs) (fb:=x.fb) (p:=a) (n:=16) (by decide)⟩,⟨_,hP (vs:=x.vs) (fb:=x.fb) (p:=a+1) (n:=16) (by decide)⟩)::b,by simp[c],eP (n:=16) (by decide),eP (n:=16) (by decide),d⟩
theorem GV{x:SS}:∀(n:Nat) (a:Int),∃b:Wy MM,b.length=n/\sv x a b
 |0,a=>⟨[],rfl,cg⟩
 |n+1,a=>by
  obtain⟨e,c,d⟩:=GV (x:=x) n (a+1+1);exact⟨(⟨_,hP (vs:=x.vs) (fb:=x.fb) (p:=a) (n:=2) (by decide)⟩,⟨_,hP (vs:=x.vs) (fb:=x.fb) (p:=a+1) (n:=5) (by decide)⟩)::e,by simp[c],eP (n:=2) (by decide),eP (n:=5) (by decide),d⟩
noncomputable def P1(a:Nat):Bool:=match a with
 |0=>false
 |_=>true
noncomputable def P2(a:Nat):WA Bool:=match a with
 |0=>none
 |1=>some true
 |_=>some false
theorem FF(b:ug)(a:Int):∃f,FE b a f:=by
 obtain⟨g,p,q⟩:=GU (x:=Cc 0 b a λω=>0) (yi b a (0+1+1) 4) (0+1+1+1)
 have s:=hP (vs:=b) (fb:=a) (p:=0+1+1) (n:=4) (by decide);generalize h:ib (0+1+1+1) g.length=P at*;obtain⟨e,n,o⟩:=GV (x:=Cc 0 b a λω=>0) (yi b a (P+1+1+1+1+1+1+1) 3) (P+1+1+1+1+1+1+1+1)
 have t:=hP (vs:=b) (fb:=a) (p:=P+1+1+1+1+1+1+1) (n:=3) (by decide)
 let c (r:Int) (i:Nat) (j:0<i):Fin i:=⟨yi b a r i,hP j⟩
 let f:In:=⟨(c 0 16 (by decide),c (0+1) 16 (by decide)),g,c P 3 (by decide),c (P+1) 4 (by decide),c (P+1+1) 6 (by decide),c (P+1+1+1) 3 (by decide),c (P+1+1+1+1) 4 (by decide),c (P+1+1+1+1+1) 6 (by decide),P1 (yi b a (P+1+1+1+1+1+1) 2),e,P2 (yi b a (p7 P e.length) 3),c (p7 P e.length+1) 4 (by decide)⟩
 have e1:f.sd.ps.length=g.length:=List.length_map ..;have e2:f.sd.xs.length=e.length:=List.length_map ..;have l:∀d<2,Fw[d]?=some (if P1 d then some wB else none):=by decide+kernel
 have m:∀d<3,Ft[d]?=some ((P2 d).map x5):=by decide+kernel
 have k:∀d:Fin 4,sM[d.val]?=some (sM.getD d.val #[]):=by decide+kernel
 refine⟨f,⟨by refine(?_:g.length<=3);lia,by refine(?_:e.length<=2);lia⟩,eP (by decide),eP (by decide), ?_,q,⟨yi b a (P+1+1+1+1+1+1) 2, ?_, ?_⟩,⟨yi b a (p7 P e.length) 3, ?_, ?_⟩,⟨yi b a (p7 P e.length+1) 4, ?_, ?_⟩⟩
 ·rw[e1,p];exact eP (n:=4) (by decide)
 ·rw[e1,h];exact⟨eP (n:=3) (by decide),eP (n:=4) (by decide),eP (n:=6) (by decide),eP (n:=3) (by decide),eP (n:=4) (by decide),eP (n:=6) (by decide),eP (n:=2) (by decide),by rw[e2,n];exact eP (n:=3) (by decide),o⟩
 ·exact l _ (hP (by decide))
 ·rw[e1,e2,h];exact eP (n:=3) (by decide)
 ·exact m _ (hP (by decide))
 ·rw[e1,e2,h];exact eP (n:=4) (by decide)
 ·exact k (c (p7 P e.length+1) 4 (by decide))
end
noncomputable def In.par(b:In):Wy ay:=b.ks.map λa=>lP .parent (dw a)
noncomputable def In.Ss(a:In):ay:=lP .UK (dk a.i1 a.j1 a.z1)
noncomputable def In.QW(a:In):ay:=lP .UL (dk a.i2 a.j2 a.z2)
noncomputable def In.tail(a:In):Wy ay:=(ie a.en++a.ms.map f4)++fq a.sg
noncomputable def In.tree(a:In):ay:=lP .tree (dw a.k)
theorem In.VB(a:In):a.rows=a.tree::(a.par++(a.Ss::a.QW::a.tail)):=by unfold In.rows In.rest In.tree In.par In.Ss In.QW In.tail;simp
noncomputable def gP(a:KK):cl:=ij a.1 a.2++ #[103]
noncomputable def tP(a:KK):cl:=ij a.1 a.2++ #[sA a.2]
noncomputable def In.mid(a:In)(b:Fin 10):Wy ay:=match b with
 |2=>[a.Ss,lP .parent (dw a.k),a.QW]
 |3=>[lP .UK xv,a.QW]
 |4=>[a.Ss,lP .UL sx]
 |5=>[a.Ss,lP .encoding #[120],a.QW]
 |7=>[lP .UK t7,a.QW]
 |8=>[lP .UK sy,a.QW]
 |9=>[lP .tree (tP a.k),a.Ss,a.QW]
 |_=>[a.Ss,a.QW]
noncomputable def In.VD(a:In)(k:Fin 10):Wy ay:=match k with
 |0=>a.par++(a.mid 0++a.tail)
 |1=>lP .tree (ij a.k.2 a.k.1)::(a.par++(a.mid 1++a.tail))
 |6=>a.tree::lP .parent (gP a.k)::(a.par++(a.mid 6++a.tail))
 |k=>a.tree::(a.par++(a.mid k++a.tail))
theorem hG{a b c:Wy dh}{f:dh}(g:M=a++(b++c))(h:d=a.length)(i:e=a.length+b.length):lm M d e f=a++([f]++c):=by subst g h i;unfold lm;rw[List.take_left,<-List.drop_drop,List.drop_left,List.drop_left];simp
theorem In.VW(d:In)(h:Fin 10):EV h d.TZ d.sd.ps.length d.k.1 d.k.2=(d.VD h).map ay.row:=by
 have j:d.sd.ps.length=(d.par.map ay.row).length:=by
  refine(?_:(d.ks.map dw).length=_);unfold In.par;simp
 have i:d.TZ=d.tree.row::(d.par.map ay.row++(d.Ss.row::d.QW.row::d.tail.map ay.row)):=by
  unfold In.TZ;rw[d.VB];simp
 rw[j,i];generalize e:d.par.map ay.row=P;generalize f:d.tail.map ay.row=g;refine bw (Q:=λh=>EV h (d.tree.row::(P++d.Ss.row::d.QW.row::g)) P.length d.k.1 d.k.2=(d.VD h).map ay.row) ?_ ?_ ?_ ?_ ?_ ?_ ?_ ?_ ?_ ?_ h
 ·refine(?_:_=(d.par++([d.Ss,d.QW]++d.tail)).map ay.row);simp[EV,e,f]
 ·refine(?_:_=(lP .tree (ij d.k.2 d.k.1)::(d.par++([d.Ss,d.QW]++d.tail))).map ay.row);simp[EV,e,f];rfl
 ·refine(?_:lm _ _ _ _=(d.tree::(d.par++([d.Ss,lP .parent (dw d.k),d.QW]++d.tail))).map ay.row);rw[hG (a:=(d.tree.row::P)++[d.Ss.row]) (b:=[]) (c:=d.QW.row::g) (by simp) (by simp;lia) (by simp;lia)];simp[e,f];rfl
 ·refine(?_:lm _ _ _ _=(d.tree::(d.par++([lP .UK xv,d.QW]++d.tail))).map ay.row);rw[hG (a:=d.tree.row::P) (b:=[d.Ss.row]) (c:=d.QW.row::g) (by simp) (by simp;lia) (by simp;lia)];simp[e,f];rfl
 ·refine(?_:lm _ _ _ _=(d.tree::(d.par++([d.Ss,lP .UL sx]++d.tail))).map ay.row);rw[hG (a:=(d.tree.row::P)++[d.Ss.row]) (b:=[d.QW.row]) (c:=g) (by simp) (by simp;lia) (by simp;lia)];simp[e,f];rfl
 ·refine(?_:lm _ _ _ _=(d.tree::(d.par++([d.Ss,lP .encoding #[120],d.QW]++d.tail))).map ay.row);rw[hG (a:=(d.tree.row::P)++[d.Ss.row]) (b:=[]) (c:=d.QW.row::g) (by simp) (by simp;lia) (by simp;lia)];simp[e,f];rfl
 ·refine(?_:lm _ _ _ _=(d.tree::lP .parent (gP d.k)::(d.par++([d.Ss,d.QW]++d.tail))).map ay.row);rw[hG (a:=[d.tree.row]) (b:=[]) (c:=P++(d.Ss.row::d.QW.row::g)) (by simp) (by simp) (by simp)];simp[e,f];rfl
 ·refine(?_:lm _ _ _ _=(d.tree::(d.par++([lP .UK t7,d.QW]++d.tail))).map ay.row);rw[hG (a:=d.tree.row::P) (b:=[d.Ss.row]) (c:=d.QW.row::g) (by simp) (by simp;lia) (by simp;lia)];simp[e,f];rfl
 ·refine(?_:lm _ _ _ _=(d.tree::(d.par++([lP .UK sy,d.QW]++d.tail))).map ay.row);rw[hG (a:=d.tree.row::P) (b:=[d.Ss.row]) (c:=d.QW.row::g) (by simp) (by simp;lia) (by simp;lia)];simp[e,f];rfl
 ·refine(?_:lm _ _ _ _=(d.tree::(d.par++([lP .tree (tP d.k),d.Ss,d.QW]++d.tail))).map ay.row);rw[hG (a:=d.tree.row::P) (b:=[]) (c:=d.Ss.row::d.QW.row::g) (by simp) (by simp;lia) (by simp;lia)];simp[e,f];rfl
section
theorem hH{a:Kd}(b:(qA k && Nat.ble k.size 400)=true):RowC (lP a k):=by rw[Bool.and_eq_true,Nat.ble_eq]at b;exact mN (bE b.1) b.2
theorem P4:∀a b:Fin 16,((qA (ij a b) && Nat.ble (ij a b).size 400) &&(qA (gP (a,b)) && Nat.ble (gP (a,b)).size 400) &&(qA (tP (a,b)) && Nat.ble (tP (a,b)).size 400))=true:=by decide+kernel
theorem B2(b c:Fin 16):(∀a,RowC (lP a (ij b c)))/\(∀a,RowC (lP a (gP (b,c))))/\(∀a,RowC (lP a (tP (b,c)))):=by have:=P4 b c;rw[Bool.and_eq_true,Bool.and_eq_true]at this;exact⟨λa=>hH this.1.1,λa=>hH this.1.2,λa=>hH this.2⟩
theorem P5:(∀a,RowC (lP a xv))/\(∀a,RowC (lP a sx))/\(∀a,RowC (lP a #[120]))/\(∀a,RowC (lP a t7))/\(∀a,RowC (lP a sy)):=⟨λa=>hH (by decide+kernel),λa=>hH (by decide+kernel),λa=>hH (by decide+kernel),λa=>hH (by decide+kernel),λa=>hH (by decide+kernel)⟩
theorem JG(b:Kd)(a:KK):RowC (lP b (dw a)):=mN (n6 a).1 (by have:=(n6 a).2;lia)
theorem In.all(b:In):RowC b.tree/\(∀a∈b.par,RowC a)/\RowC b.Ss/\RowC b.QW/\∀a∈b.tail,RowC a:=by have c:=b.WO;rw[b.VB]at c;refine⟨c _ (.head _),λa d=>c a ?_,c _ ?_,c _ ?_,λa d=>c a ?_⟩<;>simp_all
theorem In.Ws(b:In)(e:Fin 10):∀c∈b.mid e,RowC c:=by
 obtain⟨o,n,l,m,q⟩:=b.all;obtain⟨f,g,h,i,j⟩:=P5;have p:=JG .parent b.k;have k:=(B2 b.k.1 b.k.2).2.2;intro c d;revert d;refine bw (Q:=λe=>c∈b.mid e->RowC c) ?_ ?_ ?_ ?_ ?_ ?_ ?_ ?_ ?_ ?_ e<;>intro d
 ·have a:c∈[b.Ss,b.QW]:=d;simp only[List.mem_cons,List.not_mem_nil,or_false]at a;rcases a with rfl|rfl<;>assumption
 ·have a:c∈[b.Ss,b.QW]:=d;simp only[List.mem_cons,List.not_mem_nil,or_false]at a;rcases a with rfl|rfl<;>assumption
 ·have a:c∈[b.Ss,lP .parent (dw b.k),b.QW]:=d;simp only[List.mem_cons,List.not_mem_nil,or_false]at a;rcases a with rfl|rfl|rfl<;>assumption
 ·have a:c∈[lP .UK xv,b.QW]:=d;simp only[List.mem_cons,List.not_mem_nil,or_false]at a;rcases a with rfl|rfl;exact f _;assumption
 ·have a:c∈[b.Ss,lP .UL sx]:=d;simp only[List.mem_cons,List.not_mem_nil,or_false]at a;rcases a with rfl|rfl;assumption;exact g _
 ·have a:c∈[b.Ss,lP .encoding #[120],b.QW]:=d;simp only[List.mem_cons,List.not_mem_nil,or_false]at a;rcases a with rfl|rfl|rfl;assumption;exact h _;assumption
 ·have a:c∈[b.Ss,b.QW]:=d;simp only[List.mem_cons,List.not_mem_nil,or_false]at a;rcases a with rfl|rfl<;>assumption
 ·have a:c∈[lP .UK t7,b.QW]:=d;simp only[List.mem_cons,List.not_mem_nil,or_false]at a;rcases a with rfl|rfl;exact i _;assumption
 ·have a:c∈[lP .UK sy,b.QW]:=d;simp only[List.mem_cons,List.not_mem_nil,or_false]at a;rcases a with rfl|rfl;exact j _;assumption
 ·have a:c∈[lP .tree (tP b.k),b.Ss,b.QW]:=d;simp only[List.mem_cons,List.not_mem_nil,or_false]at a;rcases a with rfl|rfl|rfl;exact k _;assumption;assumption
theorem In.VA(c:In)(d:Fin 10):∀b∈c.par++(c.mid d++c.tail),RowC b:=by
 obtain⟨i,e,g,h,f⟩:=c.all;intro b a;simp only[List.mem_append]at a;rcases a with a|a|a
 ·exact e b a
 ·exact c.Ws d b a
 ·exact f b a
noncomputable def jy(a:Fin 10):Bool:=match a with
 |0=>false
 |1=>false
 |6=>false
 |_=>true
variable {a:Fin 10} {Q:Fin 10->Prop}
theorem wQ(b:jy a=true)(c:Q 2)(d:Q 3)(e:Q 4)(f:Q 5)(g:Q 7)(h:Q 8)(i:Q 9):Q a:=
 bw (Q:=λa=>jy a=true->Q a) jC jC (λω=>c) (λω=>d) (λω=>e) (λω=>f) jC (λω=>g) (λω=>h) (λω=>i) a b
theorem W6(b:jy a=false)(c:Q 0)(d:Q 1)(e:Q 6):Q a:=
 bw (Q:=λa=>jy a=false->Q a) (λω=>c) (λω=>d) (λb=>bq b) (λb=>bq b) (λb=>bq b) (λb=>bq b) (λω=>e) (λb=>bq b) (λb=>bq b) (λb=>bq b) a b
theorem In.VI(b:In)(c:jy a=true):b.VD a=b.tree::(b.par++(b.mid a++b.tail)):=by
 refine wQ (Q:=λa=>b.VD a=b.tree::(b.par++(b.mid a++b.tail))) c ?_ ?_ ?_ ?_ ?_ ?_ ?_
 ·rfl
 ·rfl
 ·rfl
 ·rfl
 ·rfl
 ·rfl
 ·rfl
theorem In.Wj(a:In)(e:Fin 10):∀b∈a.VD e,RowC b:=by
 obtain⟨f,j,h,i,k⟩:=a.all;cases g:jy e with
 |true=>
  rw[a.VI g];intro b c;rcases t6 c with rfl|c
  ·exact f
  ·exact a.VA e b c
 |false=>
  intro b c;revert c;refine W6 (Q:=λe=>b∈a.VD e->RowC b) g ?_ ?_ ?_<;>intro c
  ·exact a.VA 0 b c
  ·have d:b∈lP .tree (ij a.k.2 a.k.1)::(a.par++(a.mid 1++a.tail)):=c;rcases t6 d with rfl|d
   ·exact(B2 _ _).1 _
   ·exact a.VA 1 b d
  ·have d:b∈a.tree::lP .parent (gP a.k)::(a.par++(a.mid 6++a.tail)):=c;rcases t6 d with rfl|d
   ·exact f
   ·rcases t6 d with rfl|d
    ·exact(B2 a.k.1 a.k.2).2.1 _
    ·exact a.VA 6 b d
end
section
noncomputable def In.aV(a:In)(b:Fin 10):cl:=match b with
 |3=>xv
 |7=>t7
 |8=>sy
 |_=>dk a.i1 a.j1 a.z1
noncomputable def In.cV(a:In)(b:Fin 10):cl:=match b with
 |4=>sx
 |_=>dk a.i2 a.j2 a.z2
noncomputable def In.eV(b:In)(a:Fin 10):WA cl:=match a with
 |5=>some #[120]
 |_=>b.Vb
noncomputable def Sx(a b:WA cl):WA cl:=match a with
 |none=>b
 |some c=>some c
theorem wR(a:In)(S:Sum)(d:S.U0=false):fw S a.tail={S with en:=Sx S.en a.Vb,E:=S.E++a.ms.map ho,sg:=S.sg++vF a.Vh}:=by
 obtain⟨e,b,c,en,E,sg,g⟩:=S;have f:g=false:=d;subst f;clear d;unfold In.tail;rw[f6,f6];have e1:fw (⟨e,b,c,en,E,sg,false⟩:Sum) (ie a.en)=⟨e,b,c,Sx en a.Vb,E,sg,false⟩:=by
  unfold ie In.Vb Sx;cases a.en<;>cases en<;>rfl
 rw[e1,lU _ _ rfl];unfold fq In.Vh;cases a.sg with
 |none=>simp[fw,vF]
 |some h=>rfl
noncomputable def P6(a:In)(b:Fin 10):Prop:=fw rP (a.par++(a.mid b++a.tail))=⟨a.sd.ps,some (a.aV b),some (a.cV b),a.eV b,a.sd.xs,vF a.sd.sg,false⟩/\x3 (a.par++(a.mid b++a.tail)) true false false=true
variable {a:Fin 10}
theorem B3(b:In)(e:jy a=true):P6 b a:=by
 have c:=n9 b.tail (iO b);have g:∀R,fw rP (b.par++R)=fw ⟨b.sd.ps,none,none,none,[],[],true⟩ R:=λR=>by
  unfold In.par;rw[f6,n8 _ _ rfl];rfl
 have f:∀R,x3 (b.par++R) true false false=x3 R true false false:=λR=>qD _ _ _ _
 unfold P6;rw[g,f,f6];obtain⟨d,h,i,j⟩:∃d,fw ⟨b.sd.ps,none,none,none,[],[],true⟩ (b.mid a)=⟨b.sd.ps,some (b.aV a),some (b.cV a),d,[],[],false⟩/\Sx d b.Vb=b.eV a/\x3 (b.mid a++b.tail) true false false=true:=
  wQ (Q:=λa=>∃d,fw ⟨b.sd.ps,none,none,none,[],[],true⟩ (b.mid a)=⟨b.sd.ps,some (b.aV a),some (b.cV a),d,[],[],false⟩/\Sx d b.Vb=b.eV a/\x3 (b.mid a++b.tail) true false false=true) e ⟨none,rfl,rfl,c _⟩ ⟨none,rfl,rfl,c _⟩ ⟨none,rfl,rfl,c _⟩ ⟨some _,rfl,rfl,c _⟩ ⟨none,rfl,rfl,c _⟩ ⟨none,rfl,rfl,c _⟩ ⟨none,rfl,rfl,c _⟩
 rw[h,wR _ _ rfl];refine⟨?_,j⟩;rw[<-i];rfl
theorem lV(a:In)(c:a.Ok)(b:Fin 10):(a.par++(a.mid b++a.tail)).length<=30:=by
 have d:(ie a.en).length<=1:=by unfold ie;split<;>simp
 have e:(fq a.sg).length<=1:=by unfold fq;split<;>simp
 have f:(a.mid b).length<=3:=by
  refine bw (Q:=λb=>(a.mid b).length<=3) ?_ ?_ ?_ ?_ ?_ ?_ ?_ ?_ ?_ ?_ b
  ·exact(by decide:2<=3)
  ·exact(by decide:2<=3)
  ·exact(by decide:3<=3)
  ·exact(by decide:2<=3)
  ·exact(by decide:2<=3)
  ·exact(by decide:3<=3)
  ·exact(by decide:2<=3)
  ·exact(by decide:2<=3)
  ·exact(by decide:2<=3)
  ·exact(by decide:3<=3)
 have:=c.ps;have:=c.ms;unfold In.par In.tail;simp;lia
theorem jL(a:In)(c:a.Ok){k:Fin 10}(d:jy k=true)(e:l.size<=1000):jw (cz ((a.VD k).map ay.row) l) l a.tree (a.par++(a.mid k++a.tail)):=by have b:=a.Wj k;have f:=lV a c k;rw[a.VI d]at b|-;exact pp b (by simp only[List.length_cons];lia) e
theorem FG(e:In):∀d∈e.mid a,d.k= .parent->ff d.v:=by
 intro d b c;revert b;refine bw (Q:=λa=>d∈e.mid a->ff d.v) ?_ ?_ ?_ ?_ ?_ ?_ ?_ ?_ ?_ ?_ a<;>intro b
 ·rcases t6 b with rfl|b;cases c;rcases t6 b with rfl|b;cases c;cases b
 ·rcases t6 b with rfl|b;cases c;rcases t6 b with rfl|b;cases c;cases b
 ·rcases t6 b with rfl|b
  ·cases c
  ·rcases t6 b with rfl|b
   ·exact f5 e.k
   ·rcases t6 b with rfl|b;cases c;cases b
 ·rcases t6 b with rfl|b;cases c;rcases t6 b with rfl|b;cases c;cases b
 ·rcases t6 b with rfl|b;cases c;rcases t6 b with rfl|b;cases c;cases b
 ·rcases t6 b with rfl|b;cases c;rcases t6 b with rfl|b;cases c;rcases t6 b with rfl|b;cases c;cases b
 ·rcases t6 b with rfl|b;cases c;rcases t6 b with rfl|b;cases c;cases b
 ·rcases t6 b with rfl|b;cases c;rcases t6 b with rfl|b;cases c;cases b
 ·rcases t6 b with rfl|b;cases c;rcases t6 b with rfl|b;cases c;cases b
 ·rcases t6 b with rfl|b;cases c;rcases t6 b with rfl|b;cases c;rcases t6 b with rfl|b;cases c;cases b
theorem JH(d:In):∀c∈d.par++(d.mid a++d.tail),c.k= .parent->ff c.v:=by
 intro c b f;simp only[List.mem_append]at b;rcases b with b|b|b
 ·unfold In.par at b;rw[List.mem_map]at b;obtain⟨a,_,rfl⟩:=b;exact f5 a
 ·exact FG d c b f
 ·rcases iO d c b with e|e|e|e<;>rw[e]at f<;>cases f
end
section
noncomputable def In.spT(a:In)(b:Fin 10):cl:=cz ((a.VD b).map ay.row) a.sd.body
theorem mP{a:ay}{b:Wy ay}{kb:cl}(c:jw l m a b)(d:az a.k=kb):lD l kb (d1 a b):=by subst d;exact⟨lh c.size,c.line,c.sp,c.Vr,c.row⟩
theorem e0(b:In)(o:b.Ok):OK u (xz (b.spT 0) a c v d L):=by
 have k:b.sd.body.size<=1000:=by have:=dK b;lia
 have f:=b.Wj 0;have p:=lV b o 0;have m:b.VD 0=b.par++(b.Ss::b.QW::b.tail):=rfl;have g:(b.par++(b.Ss::b.QW::b.tail)).length<=30:=p;unfold In.spT;rw[m]at f|-;cases j:b.ks with
 |nil=>
  have h:b.par=[]:=by unfold In.par;rw[j];rfl
  rw[h]at f g|-;have i:=pp (r:=b.Ss) (R:=b.QW::b.tail) (msg:=b.sd.body) f (Nat.le_trans g (by decide)) k;exact p6 λq n s=>zV (mP i rfl)
 |cons e l=>
  have h:b.par=lP .parent (dw e)::l.map λe=>lP .parent (dw e):=by unfold In.par;rw[j];rfl
  rw[h]at f g|-;have i:=pp (r:=lP .parent (dw e)) (R:=(l.map λe=>lP .parent (dw e))++(b.Ss::b.QW::b.tail)) (msg:=b.sd.body) f (Nat.le_trans g (by decide)) k
  exact p6 λq n s=>Wx (mP i rfl)
theorem UE(b:In)(g:b.Ok):OK u (xz (b.spT 1) a c v d L):=by
 have h:b.sd.body.size<=1000:=by have:=dK b;lia
 have e:=b.Wj 1;have l:=lV b g 1;have f:b.VD 1=lP .tree (ij b.k.2 b.k.1)::(b.par++(b.mid 1++b.tail)):=rfl;unfold In.spT;rw[f]at e|-;have i:=pp (msg:=b.sd.body) e (by simp only[List.length_cons];lia) h;exact p6 λm j n=>Dz (mP i rfl) λa o=>Du
theorem P7(a:KK):gP a=gG a.1 a.2:=by unfold gP gG ij;apply Array.ext';simp
theorem e6(b:In)(j:b.Ok):OK u (xz (b.spT 6) a c v d L):=by
 have m:b.sd.body.size<=1000:=by have:=dK b;lia
 have e:=b.Wj 6;have p:=lV b j 6;have i:b.VD 6=b.tree::lP .parent (gP b.k)::(b.par++(b.mid 6++b.tail)):=rfl;unfold In.spT;rw[i]at e|-;have f:=pp (msg:=b.sd.body) e (by simp only[List.length_cons];lia) m;obtain⟨g,h,c3⟩:=f.chain;have n:=mP f (kb:=az .tree) rfl;have l:zW u (gP b.k) (lq "invalid parent sha"):=λa s=>by rw[P7];exact Dv
 exact p6 λq o r=>DA n (f5 b.k) g h l
variable {k:Fin 10}
theorem sZ(a:In)(b:a.Ok)(c:jy k=true):kY (jv a.tree.len (a.par++(a.mid k++a.tail))) ⟨a.sd.ps,some (a.aV k),some (a.cV k),a.eV k,a.sd.xs,vF a.sd.sg,false⟩ (a.aV k) (a.cV k):=by
 refine⟨?_,rfl,rfl,a.Vm b,a.VV b, ?_⟩
 ·rw[u4];exact(B3 a c).1
 ·refine(?_:(vF a.Vh).length<=1);unfold In.Vh;cases a.sg<;>simp[vF]
theorem wH(a:In)(b:a.Ok)(c:jy k=true)(d:mg l m (jv a.tree.len (a.par++(a.mid k++a.tail))) n q):gd l m (jv a.tree.len (a.par++(a.mid k++a.tail))) n q true false false false 0:=
 n4 _ _ _ _ _ _ _ _ _ (JH a) (by have:=lV a b k;lia) (B3 a c).2 d
noncomputable def In.Vg(a:In)(b:Fin 10):eY:=d1 a.tree (a.par++(a.mid b++a.tail))
noncomputable def In.Vt(a:In)(b:Fin 10):Wy dm:=jv a.tree.len (a.par++(a.mid b++a.tail))
end
section
noncomputable def In.fA(a:In)(b:Fin 10):yf:=match b with
 |3=>⟨xv,none,none,false⟩
 |8=>⟨uM,some 5,some 3600,false⟩
 |_=>uY a.i1 a.j1 a.z1
noncomputable def P8:yf:=⟨#[65,32,60,98,62],some 9223372036854775808,some 0,false⟩
noncomputable def In.fC(a:In)(b:Fin 10):yf:=match b with
 |4=>P8
 |_=>uY a.i2 a.j2 a.z2
theorem JI:h7 u sy ⟨uM,some 5,some 3600,false⟩:=pY (n:=5) (rest:= #[53,32,43,48,49,48,48]) (j:=3) (z:=6) ⟨by decide+kernel,by decide+kernel,by decide+kernel,by decide+kernel,by decide+kernel,by decide+kernel⟩
theorem JJ:h7 u sx P8:=pY (n:=4) (rest:= #[57,50,50,51,51,55,50,48,51,54,56,53,52,55,55,53,56,48,56,32,43,48,48,48,48]) (j:=5) (z:=0) ⟨by decide+kernel,by decide+kernel,by decide+kernel,by decide+kernel,by decide+kernel,by decide+kernel⟩
noncomputable def qF(k:Fin 10):Bool:=match k with
 |7=>false
 |k=>jy k
variable {a:Fin 10}
theorem bR{Q:Fin 10->Prop}(b:qF a=true)(c:Q 2)(d:Q 3)(e:Q 4)(f:Q 5)(g:Q 8)(h:Q 9):Q a:=
 bw (Q:=λa=>qF a=true->Q a) jC jC (λω=>c) (λω=>d) (λω=>e) (λω=>f) jC jC (λω=>g) (λω=>h) a b
theorem P9(b:In)(c:qF a=true):h7 u (b.aV a) (b.fA a):=by
 refine bR (Q:=λa=>h7 u (b.aV a) (b.fA a)) c ?_ ?_ ?_ ?_ ?_ ?_
 ·exact f7 _ _ _
 ·exact NB
 ·exact f7 _ _ _
 ·exact f7 _ _ _
 ·exact JI
 ·exact f7 _ _ _
theorem Qa(b:In)(c:qF a=true):h7 u (b.cV a) (b.fC a):=by
 refine bR (Q:=λa=>h7 u (b.cV a) (b.fC a)) c ?_ ?_ ?_ ?_ ?_ ?_
 ·exact f7 _ _ _
 ·exact f7 _ _ _
 ·exact JJ
 ·exact f7 _ _ _
 ·exact f7 _ _ _
 ·exact f7 _ _ _
theorem JK(b:In):∀a,b.sd.sg=some a->eI #[10] [a]=a/\a.size<=1000000:=λa c=>⟨join_one _ _,(b.VJ a c).2⟩
noncomputable def In.UZ(a:In)(b:Fin 10):Rd:=⟨a.spT b,a.Vg b,a.Vt b,a.sd.body,a.aV b,a.cV b,a.sd.ps,a.eV b,a.sd.xs,a.fA b,a.fC b⟩
theorem In.We(b:In)(c:b.Ok)(e:qF a=true)(d:jy a=true):d6 u (b.UZ a) b.sd.sg:=by
 have g:b.sd.body.size<=1000:=by have:=dK b;lia
 have h:jw (b.spT a) b.sd.body b.tree (b.par++(b.mid a++b.tail)):=jL b c d g;have m:kY (b.Vt a) ⟨b.sd.ps,some (b.aV a),some (b.cV a),b.eV a,b.sd.xs,vF b.sd.sg,false⟩ (b.aV a) (b.cV a):=sZ b c d;have t:gd (b.spT a) b.sd.body (b.Vt a) (b.Vg a).lp (((b.Vg a).np:Int)+1) true false false false 0:=wH b c d h.chain;obtain⟨v,z,i,j,k,l,t7⟩:=h;have f:d1 b.tree (b.par++(b.mid a++b.tail))=b.Vg a:=rfl;rw[f]at i j k l;have s:ff (b.Vg a).r:=f5 b.k;have n:h7 u (b.aV a) (b.fA a):=P9 b e;have o:h7 u (b.cV a) (b.fC a):=Qa b e;have p:=lh v;have q:=JK b;unfold In.UZ;clear f t7 g e;generalize b.Vg a=x,b.Vt a=y,b.spT a=w at*;exact⟨p,i,j,k,l,s,t,m,n,o,q⟩
theorem e7(b:In)(e:b.Ok){a:Nat}:OK u (EJ (b.spT 7) c a v d L):=by
 have i:b.sd.body.size<=1000:=by have:=dK b;lia
 have j:jw (b.spT 7) b.sd.body b.tree (b.par++(b.mid 7++b.tail)):=jL b e (k:=7) rfl i;have f:kY (b.Vt 7) ⟨b.sd.ps,some (b.aV 7),some (b.cV 7),b.eV 7,b.sd.xs,vF b.sd.sg,false⟩ (b.aV 7) (b.cV 7):=sZ b e (k:=7) rfl;have s:gd (b.spT 7) b.sd.body (b.Vt 7) (b.Vg 7).lp (((b.Vg 7).np:Int)+1) true false false false 0:=wH b e (k:=7) rfl j.chain;obtain⟨w,H,l,m,n,o,x⟩:=j;have h:d1 b.tree (b.par++(b.mid 7++b.tail))=b.Vg 7:=rfl;rw[h]at l m n o;have q:ff (b.Vg 7).r:=f5 b.k;have p:=lh w;have g:b.aV 7=t7:=rfl;rw[g]at f;have t:Gx {(b.UZ 7)with A:=t7} b.sd.sg:=by
  unfold In.UZ;clear h x i g;generalize b.Vg 7=z,b.Vt 7=C,b.spT 7=y at*;exact⟨p,l,m,n,o,q,s,f⟩
 exact IW λG D I=>IV (x:=b.UZ 7) t
end
noncomputable def oc(c:Nat):Wy ay->Kd->Kd->Bool
 |[],b,a=>O3 c a b
 |d::R,b,a=>QL c d.k b && oc c R d.k a
theorem lj{l m:cl}{c:Nat}{a:ay}{b:Wy ay}:∀(R:Wy ay) (e:Nat) (g:cl) (h:Int) (f:Kd),oc c R f a.k=true->mg l m (jv e (R++a::b)) g h->∃j n,nN c l j n g h f
 |[],e,g,h,f,d,⟨o,p,_⟩=>⟨Ka a (e+a.len) b,[],o,p,d⟩
 |i::R,e,g,h,f,d,⟨o,p,r⟩=>by
  unfold oc at d;rw[Bool.and_eq_true]at d;obtain⟨j,n,q⟩:=lj R (e+i.len) _ _ i.k d.2 r;exact⟨j,Ka i (e+i.len) (R++a::b)::n,o,p,d.1,q⟩
theorem s0{k0:KK}{b:Wy ay}{a:Kd}(f:oc 1 b .parent a=true):∀(d:Wy KK) (c:Kd),c= .tree\/c= .parent->oc 1 ((lP .parent (dw k0)::d.map λk=>lP .parent (dw k))++b) c a=true
 |[],c,e=>by
  refine(?_:(QL 1 .parent c && oc 1 b .parent a)=true);rw[f];rcases e with rfl|rfl<;>rfl
 |k::d,c,e=>by
  have:=s0 f (k0:=k) d .parent (.inr rfl);refine(?_:(QL 1 .parent c && oc 1 ((lP .parent (dw k)::d.map λk=>lP .parent (dw k))++b) .parent a)=true)
  rw[this];rcases e with rfl|rfl<;>rfl
theorem qG(b:In){R:Wy ay}{a:Kd}(d:oc 0 R .tree a=true)(e:oc 1 R .parent a=true):oc (QJ b.sd.ps) (b.par++R) .tree a=true:=by
 refine(?_:oc (QJ (b.ks.map dw)) ((b.ks.map λc=>lP .parent (dw c))++R) .tree a=true)
 cases b.ks with
 |nil=>exact d
 |cons c f=>exact s0 e f .tree (.inl rfl)
theorem fx(b:In)(f:b.Ok){a:Fin 10}(k:a=2\/a=5\/a=9):∃i j,nN (QJ b.sd.ps) (b.spT a) i j (b.Vg a).lp (((b.Vg a).np:Int)+1) .tree:=by
 have g:b.sd.body.size<=1000:=by have:=dK b;lia
 rcases k with rfl|rfl|rfl
 ·have e:jw (b.spT 2) b.sd.body b.tree (b.par++(b.mid 2++b.tail)):=jL b f (k:=2) rfl g;have c:=e.chain;have d:b.par++(b.mid 2++b.tail)=(b.par++[b.Ss])++lP .parent (dw b.k)::([b.QW]++b.tail):=by
   refine(?_:b.par++([b.Ss,lP .parent (dw b.k),b.QW]++b.tail)=_);simp
  rw[show(b.Vg 2)=d1 b.tree (b.par++(b.mid 2++b.tail))from rfl];generalize (d1 b.tree (b.par++(b.mid 2++b.tail)))=h at c|-;rw[d]at c;exact lj _ _ _ _ _ (qG b (R:=[b.Ss]) rfl rfl) c
 ·have e:jw (b.spT 5) b.sd.body b.tree (b.par++(b.mid 5++b.tail)):=jL b f (k:=5) rfl g;have c:=e.chain;have d:b.par++(b.mid 5++b.tail)=(b.par++[b.Ss])++lP .encoding #[120]::([b.QW]++b.tail):=by
   refine(?_:b.par++([b.Ss,lP .encoding #[120],b.QW]++b.tail)=_);simp
  rw[show(b.Vg 5)=d1 b.tree (b.par++(b.mid 5++b.tail))from rfl];generalize (d1 b.tree (b.par++(b.mid 5++b.tail)))=h at c|-;rw[d]at c;exact lj _ _ _ _ _ (qG b (R:=[b.Ss]) rfl rfl) c
 ·have e:jw (b.spT 9) b.sd.body b.tree (b.par++(b.mid 9++b.tail)):=jL b f (k:=9) rfl g;have c:=e.chain;have d:b.par++(b.mid 9++b.tail)=(b.par++[])++lP .tree (tP b.k)::([b.Ss,b.QW]++b.tail):=by
   refine(?_:b.par++([lP .tree (tP b.k),b.Ss,b.QW]++b.tail)=_);simp
  rw[show(b.Vg 9)=d1 b.tree (b.par++(b.mid 9++b.tail))from rfl];generalize (d1 b.tree (b.par++(b.mid 9++b.tail)))=h at c|-;rw[d]at c;exact lj _ _ _ _ _ (qG b (R:=[]) rfl rfl) c
noncomputable def UF:cl:= #[65,32,60,98,62]
theorem Qb{a:Str}:aI u (λω=>OL UF c a d):=
 oT QE [] [] (aE []) trivial (Y:=λω=>[])
section
theorem od(b:In)(d:b.Ok){a:CQ}(e:a.T=b.sd.tree):Bb u a b.sd.ps:=by
 refine⟨b.Vm d,λh f=> ?_,by rw[e];exact f5 b.k⟩
 have c:h∈b.ks.map dw:=f;rw[List.mem_map]at c;obtain⟨g,_,rfl⟩:=c;exact f5 g
theorem oe{a:Str}{i:Fin 3}(b:k=dv i):kr u k a:=by subst b;exact λc d=>A1 i
theorem og{a:Fin 4}:xP u (dt.getD a.val 0):=λb=>uN a
variable {a:Fin 10}
theorem B4(b:In)(d:b.Ok)(e:jy a=true):mu [b.spT a] (b.spT a) (b.Vg a):=by
 have f:b.sd.body.size<=1000:=by have:=dK b;lia
 have c:jw (b.spT a) b.sd.body b.tree (b.par++(b.mid a++b.tail)):=jL b d e f;exact⟨lh c.size,c.line,c.sp,c.Vr,c.row⟩
theorem Qc(a:In)(f:a.Ok):∃m:AL->Wz,∀(b:AL) (c e:Nat) (d:Wz) (h:Nat) (g:ui),OK u (aR (Pm u) (gX (a.UZ 2) a.sd.sg b c) a.sd.ps (gw (a.fA 2).time (b 10)) (gw (a.fC 2).time (b 13)) e d h g m):=by
 refine⟨λω=>.none,λb c e d h g=> ?_⟩
 have n:Bb u (gX (a.UZ 2) a.sd.sg b c) a.sd.ps:=od a f rfl;have o:mu (gX (a.UZ 2) a.sd.sg b c).bs (a.spT 2) (a.Vg 2):=B4 a f rfl;have j:kr u (gX (a.UZ 2) a.sd.sg b c).A (lq "invalid author"):=oe (i:=a.i1) rfl;have k:kr u (gX (a.UZ 2) a.sd.sg b c).C (lq "invalid committer"):=oe (i:=a.i2) rfl;obtain⟨r,s,l⟩:=fx a f (.inl rfl);refine(?_:OK u (aR (Pm u) (gX (a.UZ 2) a.sd.sg b c) a.sd.ps (.int (dt.getD a.j1.val 0) ((gX (a.UZ 2) a.sd.sg b c).t 3)) (.int (dt.getD a.j2.val 0) ((gX (a.UZ 2) a.sd.sg b c).t 4)) e d h g λω=>.none))
 generalize gX (a.UZ 2) a.sd.sg b c=t at*;generalize a.spT 2=p,a.Vg 2=q at*;exact qp n j k og og o l
theorem Qd(a:In)(f:a.Ok):∃m:AL->Wz,∀(b:AL) (c e:Nat) (d:Wz) (h:Nat) (g:ui),OK u (aR (Pm u) (gX (a.UZ 5) a.sd.sg b c) a.sd.ps (gw (a.fA 5).time (b 10)) (gw (a.fC 5).time (b 13)) e d h g m):=by
 refine⟨λω=>.none,λb c e d h g=> ?_⟩
 have n:Bb u (gX (a.UZ 5) a.sd.sg b c) a.sd.ps:=od a f rfl;have o:mu (gX (a.UZ 5) a.sd.sg b c).bs (a.spT 5) (a.Vg 5):=B4 a f rfl;have j:kr u (gX (a.UZ 5) a.sd.sg b c).A (lq "invalid author"):=oe (i:=a.i1) rfl;have k:kr u (gX (a.UZ 5) a.sd.sg b c).C (lq "invalid committer"):=oe (i:=a.i2) rfl;obtain⟨r,s,l⟩:=fx a f (.inr (.inl rfl));refine(?_:OK u (aR (Pm u) (gX (a.UZ 5) a.sd.sg b c) a.sd.ps (.int (dt.getD a.j1.val 0) ((gX (a.UZ 5) a.sd.sg b c).t 3)) (.int (dt.getD a.j2.val 0) ((gX (a.UZ 5) a.sd.sg b c).t 4)) e d h g λω=>.none))
 generalize gX (a.UZ 5) a.sd.sg b c=t at*;generalize a.spT 5=p,a.Vg 5=q at*;exact qp n j k og og o l
theorem Qe(a:In)(f:a.Ok):∃m:AL->Wz,∀(b:AL) (c e:Nat) (d:Wz) (h:Nat) (g:ui),OK u (aR (Pm u) (gX (a.UZ 9) a.sd.sg b c) a.sd.ps (gw (a.fA 9).time (b 10)) (gw (a.fC 9).time (b 13)) e d h g m):=by
 refine⟨λω=>.none,λb c e d h g=> ?_⟩
 have n:Bb u (gX (a.UZ 9) a.sd.sg b c) a.sd.ps:=od a f rfl;have o:mu (gX (a.UZ 9) a.sd.sg b c).bs (a.spT 9) (a.Vg 9):=B4 a f rfl;have j:kr u (gX (a.UZ 9) a.sd.sg b c).A (lq "invalid author"):=oe (i:=a.i1) rfl;have k:kr u (gX (a.UZ 9) a.sd.sg b c).C (lq "invalid committer"):=oe (i:=a.i2) rfl;obtain⟨r,s,l⟩:=fx a f (.inr (.inr rfl));refine(?_:OK u (aR (Pm u) (gX (a.UZ 9) a.sd.sg b c) a.sd.ps (.int (dt.getD a.j1.val 0) ((gX (a.UZ 9) a.sd.sg b c).t 3)) (.int (dt.getD a.j2.val 0) ((gX (a.UZ 9) a.sd.sg b c).t 4)) e d h g λω=>.none))
 generalize gX (a.UZ 9) a.sd.sg b c=t at*;generalize a.spT 9=p,a.Vg 9=q at*;exact qp n j k og og o l
theorem Qf(a:In)(i:a.Ok):∃h:AL->Wz,∀(b:AL) (c e:Nat) (d:Wz) (g:Nat) (f:ui),OK u (aR (Pm u) (gX (a.UZ 3) a.sd.sg b c) a.sd.ps (gw (a.fA 3).time (b 10)) (gw (a.fC 3).time (b 13)) e d g f h):=by
 refine⟨λω=>.none,λb c e d g f=> ?_⟩
 refine(?_:OK u (aR (Pm u) (gX (a.UZ 3) a.sd.sg b c) a.sd.ps .none (.int (dt.getD a.j2.val 0) ((gX (a.UZ 3) a.sd.sg b c).t 4)) e d g f λω=>.none))
 generalize gX (a.UZ 3) a.sd.sg b c=j at*;exact EF
theorem Qg(a:In)(h:a.Ok):∃l:AL->Wz,∀(b:AL) (c e:Nat) (d:Wz) (g:Nat) (f:ui),OK u (aR (Pm u) (gX (a.UZ 4) a.sd.sg b c) a.sd.ps (gw (a.fA 4).time (b 10)) (gw (a.fC 4).time (b 13)) e d g f l):=by
 refine⟨λb=>.ref (b 4),λb c e d g f=> ?_⟩
 have m:Bb u (gX (a.UZ 4) a.sd.sg b c) a.sd.ps:=od a h rfl;have j:kr u (gX (a.UZ 4) a.sd.sg b c).A (lq "invalid author"):=oe (i:=a.i1) rfl;have k:kr u (gX (a.UZ 4) a.sd.sg b c).C (lq "invalid committer"):=λc o=>Qb
 refine(?_:OK u (aR (Pm u) (gX (a.UZ 4) a.sd.sg b c) a.sd.ps (.int (dt.getD a.j1.val 0) ((gX (a.UZ 4) a.sd.sg b c).t 3)) (.int 9223372036854775808 ((gX (a.UZ 4) a.sd.sg b c).t 4)) e d g f λb=>.ref (b 4)))
 generalize gX (a.UZ 4) a.sd.sg b c=n at*;exact EG m j k og
theorem Qh(a:In)(h:a.Ok):∃i:AL->Wz,∀(b:AL) (c e:Nat) (d:Wz) (g:Nat) (f:ui),OK u (aR (Pm u) (gX (a.UZ 8) a.sd.sg b c) a.sd.ps (gw (a.fA 8).time (b 10)) (gw (a.fC 8).time (b 13)) e d g f i):=by
 refine⟨λb=>.ref (b 4),λb c e d g f=> ?_⟩
 have j:Bb u (gX (a.UZ 8) a.sd.sg b c) a.sd.ps:=od a h rfl;refine(?_:OK u (aR (Pm u) {(gX (a.UZ 8) a.sd.sg b c)with A:=uM} a.sd.ps (.int 5 ((gX (a.UZ 8) a.sd.sg b c).t 3)) (.int (dt.getD a.j2.val 0) ((gX (a.UZ 8) a.sd.sg b c).t 4)) e d g f λb=>.ref (b 4)))
 generalize gX (a.UZ 8) a.sd.sg b c=k at*;exact EH j
theorem UG(b:In)(d:b.Ok)(k:qF a=true):∃g:AL->Wz,∀(c:AL) (i f:Nat) (e:Wz) (j:Nat) (h:ui),OK u (aR (Pm u) (gX (b.UZ a) b.sd.sg c i) b.sd.ps (gw (b.fA a).time (c 10)) (gw (b.fC a).time (c 13)) f e j h g):=
 bR (Q:=λa=>∃g:AL->Wz,∀(c:AL) (i f:Nat) (e:Wz) (j:Nat) (h:ui),OK u (aR (Pm u) (gX (b.UZ a) b.sd.sg c i) b.sd.ps (gw (b.fA a).time (c 10)) (gw (b.fC a).time (c 13)) f e j h g)) k (Qc b d) (Qf b d) (Qg b d) (Qd b d) (Qh b d) (Qe b d)
end
section
theorem FH(b:In)(i:b.Ok)(e:Fin 10):OK u (eN c a H ((b.VD e).map ay.row) b.sd.body d):=by
 have j:b.sd.body.size<=1000:=by have:=dK b;lia
 have f:=lV b i e;refine li (b.Wj e) ?_ ?_ j
 ·refine bw (Q:=λe=>b.VD e≠[]) (λh=> ?_) (List.cons_ne_nil _ _) (List.cons_ne_nil _ _) (List.cons_ne_nil _ _) (List.cons_ne_nil _ _) (List.cons_ne_nil _ _) (List.cons_ne_nil _ _) (List.cons_ne_nil _ _) (List.cons_ne_nil _ _) (List.cons_ne_nil _ _) e
  have:=congrArg List.length h;simp[In.VD,In.mid]at this
 ·cases g:jy e with
  |true=>rw[b.VI g,List.length_cons];lia
  |false=>
   match e,g with
   |0,_=>exact Nat.le_trans f (by decide)
   |1,_=>exact Nat.succ_le_of_lt (Nat.lt_of_le_of_lt f (by decide))
   |6,_=>exact Nat.le_trans (Nat.succ_le_succ (Nat.succ_le_succ f)) (by decide)
theorem GW(a:In)(b:Fin 10):J6 (a.UZ b) (cz ((a.VD b).map ay.row) a.sd.body)=a.UZ b:=by unfold J6 In.UZ In.spT;rfl
variable {a:Fin 10}
theorem UH(b:In)(c:qF a=true):jk (b.fA a):=by
 refine bR (Q:=λa=>jk (b.fA a)) c ?_ ?_ ?_ ?_ ?_ ?_
 ·exact .inl ⟨_,_,rfl,rfl⟩
 ·exact .inr ⟨rfl,rfl⟩
 ·exact .inl ⟨_,_,rfl,rfl⟩
 ·exact .inl ⟨_,_,rfl,rfl⟩
 ·exact .inl ⟨_,_,rfl,rfl⟩
 ·exact .inl ⟨_,_,rfl,rfl⟩
theorem UI(b:In)(e:qF a=true):∃c d,(b.fC a).time=some c/\(b.fC a).zone=some d:=by
 refine bR (Q:=λa=>∃c d,(b.fC a).time=some c/\(b.fC a).zone=some d) e ?_ ?_ ?_ ?_ ?_ ?_
 ·exact⟨_,_,rfl,rfl⟩
 ·exact⟨_,_,rfl,rfl⟩
 ·exact⟨_,_,rfl,rfl⟩
 ·exact⟨_,_,rfl,rfl⟩
 ·exact⟨_,_,rfl,rfl⟩
 ·exact⟨_,_,rfl,rfl⟩
theorem GX(b:qF a=true):jy a=true/\BA a=false:=by revert a;decide
theorem JL(b:qF a=false):BA a=true:=by revert a;decide
theorem Cn{Q:Fin 10->Prop}(b:qF a=false)(c:Q 0)(d:Q 1)(e:Q 6)(f:Q 7):Q a:=
 bw (Q:=λa=>qF a=false->Q a) (λω=>c) (λω=>d) bq bq bq bq (λω=>e) (λω=>f) bq bq a b
theorem UJ(a:In)(h:a.Ok)(c:Fin 10)(a7:H.size<=16777216)(a1:hB H)(a3:0<=q)(a2:dD H q s 10=(c.val:Nat)):BY u a H s q (BA c):=⟨λe o m t l aa y z ab J ac=>by
 have D:∀L a9 M,OK u (mv e.ss e.place 10 c.val L a9 M):=fY ⟨by rw[z];exact a7,by rw[z];exact a1⟩ (by rw[J];exact a3) (by decide) (by rw[z,ab,J];exact a2);have ae:=a.len h;have a4:=a.Vm h;have P:e.XS.size<=1000:=by rw[ac];unfold In.TZ;rw[List.length_map];lia
 have W:a.TZ[0]?=some (az .tree,eF a.k.1 a.k.2):=rfl;have p:∀g,OK u (iZ c.val e.rl e.pl e.Vk e.U5 e.XS a.TZ a.sd.ps e.Fp g (Po c e.XS a.sd.ps.length) ((a.VD c).map ay.row) (BA c) []):=λg=>by
  have:=Jf (u:=u) (rl:=e.rl) (pl0:=e.pl) (ep:=e.Vk) (U5:=e.U5) (XS:=e.XS) (R:=a.TZ) (ps:=a.sd.ps) (F:=e.Fp) (tk:=g) (a:=a.k.1) (b:=a.k.2) c (by lia) P W;rw[a.VW c]at this;exact this
 have x:∀l A G g,OK u (eN l A G ((a.VD c).map ay.row) a.sd.body g):=λl A G g=>FH a h c
 cases k:qF c with
 |true=>
  have X:=(GX k).1;have w:=(GX k).2;obtain⟨C,Z⟩:=UG (u:=u) a h k;have a6:=a.We (u:=u) h k X;rw[w]at p|-;have N:=UH a k;have Y:=UI a k;have a5:(a.UZ c).ps.length<=3:=a4;have O:jk (a.UZ c).fA:=N;have V:∃a8 e,(a.UZ c).fC.time=some a8/\(a.UZ c).fC.zone=some e:=Y;have a0:∀(n:AL) (g o:Nat) (m:Wz) (t:Nat) (l:ui),OK u (aR (Pm u) (gX (a.UZ c) a.sd.sg n g) (a.UZ c).ps (gw (a.UZ c).fA.time (n 10)) (gw (a.UZ c).fC.time (n 13)) o m t l C):=Z;refine E6 D p λf I v=>E2 ?_
  have j:f.Vn.msg=a.sd.body:=by refine(?_:f.msg=_);rw[v,y]
  have eT:(a.UZ c).d.r=f.Vn.T:=by refine(?_:a.sd.tree=f.T);rw[I,aa]
  refine(?_:OK u (uU 28 (Pm u) f.Vn (a.UZ c).ps _ o m t l));refine Jk (y:=a.UZ c) (sg:=a.sd.sg) (h:=C) eT ?_ ?_ ?_
  ·rw[j];exact x _ _ _ _
  ·rw[j,GW];generalize a.UZ c=af at*;exact λg=>H0 a6 a5 O V
  ·rw[j,GW];exact λn g=>a0 n g o m t l
 |false=>
  have w:=JL k;rw[w]at p|-;refine E4 D p λf I v=> ?_
  have i:OK u (eN f.wl f.VM f.XW ((a.VD c).map ay.row) f.msg f.tm):=by rw[v,y];exact x _ _ _ _
  have j:f.msg=a.sd.body:=by rw[v,y]
  clear p x;refine Cn (Q:=λc=>OK u (eN f.wl f.VM f.XW ((a.VD c).map ay.row) f.msg f.tm)->OK u (wu (Pm u) f a.sd.ps ((a.VD c).map ay.row) o m t l)) k (λi=> ?_) (λi=> ?_) (λi=> ?_) (λi=> ?_) i
  ·exact qv i (by rw[j];exact λg=>e0 a h)
  ·exact qv i (by rw[j];exact λg=>UE a h)
  ·exact qv i (by rw[j];exact λg=>e6 a h)
  ·exact E3 i (by rw[j];exact λg=>e7 a h)⟩
end
theorem B5{l ep:Nat}{vs:ug}{rs:Wy (Int×Nat)}(k:vs.toList=wd rs)(i:rs.length<=1000000)(d:hB (vs.extract 0 (min 60 vs.size))):∃f,OK u (Jy l ep vs f):=by
 generalize e:vs.extract 0 (min 60 vs.size)=b at*;obtain⟨a,c⟩:=FF b ((nT (rs.map (·.1))).fmod 997);have j:0<=JF a:=by
  have:=B0 (p:=ib (0+1+1+1) a.sd.ps.length) (n:=a.sd.xs.length) (jx _ _ (by decide));unfold JF;lia
 have h:=hP (vs:=b) (fb:=(nT (rs.map (·.1))).fmod 997) (p:=JF a) (n:=10) (by decide);have g:=eP (vs:=b) (fb:=(nT (rs.map (·.1))).fmod 997) (p:=JF a) (n:=10) (by decide);have m:b.size<=16777216:=by rw[<-e,Array.size_extract];lia
 exact⟨_,Sw k i e rfl d c (UJ a c.ok ⟨_,h⟩ m d j g)⟩
section
open PyProof
variable {d:Wy Int}
theorem JM(c:IntsAre L d):∃a:Wy (Int×Nat),L=wd a/\a.length=d.length:=by
 induction c with
 |nil=>exact⟨[],rfl,rfl⟩
 |cons g h _ f=>
  obtain⟨a,b,e⟩:=f;exact⟨(g,h)::a,by rw[b];rfl,by simp[e]⟩
theorem Sy{b:WG}(D:tj oP J=Ya b)(r:∀g i,J.heap.get? g=some i->I.heap.get? g=some i)(A:I.heap.get? a=some (cm L.toArray c))(w:J.heap.get? a=none)(M:IntsAre L d)(a6:d.length<=63)(O:hB (L.toArray.extract 0 (min 60 L.toArray.size)))(Y:I.gens= #[]){e:WH->WF->Prop}
 (N:∀j,(∀g i,I.heap.get? g=some i->g≠393->g≠972->g≠693->j.heap.get? g=some i)->(∀g,g=393\/g=972\/g=693->I.heap.get? g=some aT/\∃R,j.heap.get? g=some ⟨.none,none,.fields R,#[]⟩)->j.os=I.os->AllBare j.gens->e (.ok (.ret (.bool true))) j):codeAny (model PW b) callerA (.call (.ref 975) ⟨[.ref a],[]⟩) e I:=by
 obtain⟨x,s⟩:=pG D;obtain⟨a3,e1,e2⟩:=JM M;obtain⟨n,p⟩:=B5 (u:=⟨b,b.params.followText "special-get-raises",b.params.followText "comprehension-iter-twice"⟩) (l:=a) (ep:=c) (vs:=L.toArray) (rs:=a3) (by simpa using e1) (by lia) O;unfold OK at p;rw[Cy]at p;have Q:gq (KB b) I.heap:=λv i f=>r v i (x v i f)
 have F:KB b a=none:=by
  cases f:KB b a with
  |none=>rfl
  |some i=>have:=x a i f;rw[w]at this;cases this
 refine p callerA e I ⟨rfl,(λa4 f=>by cases f),(show callerA.depth+2*293+2<=900 by decide),(show callerA.units+12*293+12<=9000 by decide)⟩ ⟨[],rfl,λa5 f=>nomatch f⟩ Q (AllBare.of_eq Y) ⟨?_, ?_,(λh f=>nomatch f),List.nodup_nil,(λB f=>nomatch f)⟩ λm a7 j k=>N j ?_ ?_ k.step.os k.bare
 ·intro G T;have z:G∈pl [(a,cm L.toArray c),(393,aT),(972,aT),(693,aT)]:=T;simp only[pl,List.map_cons,List.map_nil,List.mem_cons,List.not_mem_nil,or_false]at z;have l:∀h∈yC b.params,I.heap.get? h.1=some h.2:=λh o=>r _ _ (s h o)
  rcases z with rfl|rfl|rfl|rfl
  ·exact⟨A,F,λω f=>nomatch f⟩
  ·exact⟨l (393,_) (.head _),by kernel_rfl,λω f=>nomatch f⟩
  ·exact⟨l (972,_) (.tail _ (.tail _ (.head _))),by kernel_rfl,λω f=>nomatch f⟩
  ·exact⟨l (693,_) (.tail _ (.head _)),by kernel_rfl,λω f=>nomatch f⟩
 ·have t:∀h∈yC b.params,a≠h.1:=λh o n=>by have:=s h o;rw[<-n,w]at this;cases this
  refine(?_:[a,393,972,693].Nodup);have V:=t (393,_) (.head _);have W:=t (693,_) (.tail _ (.head _));have P:=t (972,_) (.tail _ (.tail _ (.head _)));simp only[List.nodup_cons,List.mem_cons,List.not_mem_nil,or_false,not_or,List.nodup_nil,not_false_eq_true,and_true];exact⟨⟨V,P,W⟩,⟨by decide,by decide⟩,by decide⟩
 ·intro g i q a0 a1 a2
  by_cases y:g=a
  ·subst y;have:=k.post (⟨g,cm L.toArray c,false⟩,cm L.toArray c) (.head _);have H:j.heap.get? g=some (cm L.toArray c):=this;rw[A]at q;rw[H,<-q]
  ·rcases k.step.chg g i q (by
    refine(?_:g∉[a,393,972,693]);simp only[List.mem_cons,List.not_mem_nil,or_false,not_or];exact⟨y,a0,a1,a2⟩)with f|⟨f,_⟩
   ·exact f
   ·cases f
 ·have l:∀h∈yC b.params,I.heap.get? h.1=some h.2:=λh o=>r _ _ (s h o)
  have X:j.heap.get? 393=some (ee (m 2)):=k.post (⟨393,aT,false⟩,ee (m 2)) (.tail _ (.head _));have C:j.heap.get? 972=some (uW n (m 0)):=k.post (⟨972,aT,false⟩,uW n (m 0)) (.tail _ (.tail _ (.head _)));have Z:j.heap.get? 693=some (fG (m 1)):=k.post (⟨693,aT,false⟩,fG (m 1)) (.tail _ (.tail _ (.tail _ (.head _))));rintro g (rfl|rfl|rfl)
  ·exact⟨l (393,_) (.head _),_,X⟩
  ·refine⟨l (972,_) (.tail _ (.tail _ (.head _))), ?_⟩;cases n with
   |true=>exact⟨_,C⟩
   |false=>exact⟨_,C⟩
  ·exact⟨l (693,_) (.tail _ (.head _)),_,Z⟩
end
section
open PyProof
theorem JN{w:WG}{a:Heap}{b:Str->WA Wz}(l:gq (KB w) a)(m:a.Ns mainGlobals b)(f:b s5.name=some (.ref c)):c=975:=by
 obtain⟨o,d,p,h,i,q,j⟩:=m;have n:KB w 3=some (Ql w.params):=by kernel_rfl
 have k:=l 3 _ n;have e:a.get? 3=some o:=h;rw[k]at e;injection e with e;subst e;have g:d=(match(Ql w.params).data with| .dict d _=>d|_=> #[]):=by rw[i]
 rw[<-j,g]at f;have:nsFind (match(Ql w.params).data with| .dict d _=>d|_=> #[]) s5.name=some (.ref 975):=by kernel_rfl
 rw[this]at f;cases f;rfl
end
section
open PyProof
theorem FI{a:WG}{b:WF}(o:tj oP b=Ya a)(t:∀c d,b.heap.get? c=some d->I.heap.get? c=some d)(l:∀c d,I.heap.get? c=some d->c≠393->c≠972->c≠693->J.heap.get? c=some d)(m:∀c,c=393\/c=972\/c=693->I.heap.get? c=some aT/\∃h,J.heap.get? c=some ⟨.none,none,.fields h,#[]⟩):OldK I.heap J.heap:=by
 obtain⟨r,v⟩:=pG o;have i:gq (KB a) I.heap:=λk d q=>t k d (r k d q)
 have p:∀c,c=393\/c=972\/c=693->isCodeTable I.heap c:=λc s=>by
  rcases s with rfl|rfl|rfl
  ·exact⟨397,FL a.params,_,i 397 _ (by kernel_rfl),rfl,rfl,rfl⟩
  ·exact⟨974,FN a.params,_,i 974 _ (by kernel_rfl),rfl,rfl,rfl⟩
  ·exact⟨697,FM a.params,_,i 697 _ (by kernel_rfl),rfl,rfl,rfl⟩
 refine⟨λc d g=> ?_,λc d g=> ?_⟩
 ·by_cases f:c=393\/c=972\/c=693
  ·obtain⟨n,h,j⟩:=m c f;rw[n]at g;injection g with g;subst g;exact .inr (.inl ⟨p c f,rfl,#[],h,rfl,by rw[j];simp[aT]⟩)
  ·exact .inl (l c d g (λe=>f (.inl e)) (λe=>f (.inr (.inl e))) (λe=>f (.inr (.inr e))))
 ·by_cases f:c=393\/c=972\/c=693
  ·obtain⟨n,h,j⟩:=m c f;exact⟨_,j⟩
  ·exact⟨d,l c d g (λe=>f (.inl e)) (λe=>f (.inr (.inl e))) (λe=>f (.inr (.inr e)))⟩
end
section
open PyProof
theorem lay_ints{a:WRecords}{c:Str->WA Addr}{b:WC}{d:Wy WL->Wy WL}:∀(g:Wy Int) (h:WF) (f:ui×WF),layAllW a c b d (g.map WData.int) h=some f->IntsAre f.1 g/\f.2.heap=h.heap
 |[],h,f,e=>by cases e;exact⟨.nil,rfl⟩
 |n::g,h,f,e=>by
  simp only[List.map_cons,layAllW,layW]at e;split at e
  ·rename_i l k;obtain⟨i,j⟩:=lay_ints g _ l k;cases e;exact⟨.cons n _ i,j⟩
  ·cases e
theorem ya(a:Wy Int):ofPy (PyData.list (a.map PyData.int))=WData.list (a.map WData.int):=by refine(?_:WData.list (ofPys (a.map PyData.int))=_);rw[ofPys_eq,List.map_map];rfl
theorem yb{a:WRecords}{d:WG}{b:Wy Int}(j:Laid a d I J [ofPy (PyData.list (b.map PyData.int))] [.ref c] Z):I.heap.get? c=none/\∃i,IntsAre i b/\J.heap.get? c=some (cm i.toArray 0):=by
 obtain⟨q,_,e⟩:=j.laid;rw[ya]at e;simp only[layAllW,layW]at e;split at e
 ·rename_i r g;split at g
  ·rename_i h o;obtain⟨l,m⟩:=lay_ints b _ h o;cases g;injection e with e;injection e with f n;injection f with f _;injection f with f;subst f n;refine⟨?_,h.1,l,Heap.get?_push_size _ rfl⟩;rw[m];cases k:I.heap.get? I.heap.objs.size with
   |none=>rfl
   |some p=>exact absurd (Heap.lt_size k) (Nat.lt_irrefl _)
  ·cases g
 ·cases e
end
section
open PyProof
variable {a:Wy Int}
theorem ints_get(e:IntsAre L a):∀b,b<L.length->∃h d,L[b]?=some (.int h d):=by
 induction e with
 |nil=>intro b c;cases c
 |cons g d _ f=>
  intro b c;cases b with
  |zero=>exact⟨g,d,rfl⟩
  |succ b=>simpa using f b (by simpa using c)
theorem B6(e:IntsAre L a)(g:Nat):hB (L.toArray.extract 0 g):=by
 intro c b;rw[Array.size_extract]at b;have f:c<L.length:=by simp at b;lia
 obtain⟨i,h,d⟩:=ints_get e c f;refine⟨i,h, ?_⟩;rw[Array.getElem?_extract];simp at b|-;exact⟨b,d⟩
theorem yc{a:Wy WData}{b:Str->WA Addr}{c:ExcName->WA Wz}(d:OldK J.heap I.heap)(f:I.os=J.os)(e:AllBare I.gens):GoodWG RW.row.claim b c a J (.ok (.ret (.bool true))) I:=
 ⟨.inl ⟨.bool true,.bool true,[],rfl,λω=>rfl,.bool true,by kernel_rfl,λω=>⟨List.nodup_nil,λω d=>nomatch d⟩⟩,d,f,e⟩
theorem FJ:RW.row.prog=PW:=rfl
theorem Qi:RW.Holds:=by
 refine holds_law QX λL=> ?_
 refine holds_openX (q:=QV) (loose:=pu) (XP:=λω ω=>True) (d:=s5) (kwd:=[]) MX (λω ω=>cg) (λω ω ω ω ω=>cg) (by kernel_rfl) (by kernel_rfl) (by kernel_rfl) (λab ω=>recFacts_of (by rfl)) (by kernel_rfl) L (by kernel_rfl) ⟨rfl,rfl,rfl,rfl,rfl,by decide+kernel⟩ wK ?_
 intro M ae af a6 a5 e a j c a8 F V R a3 z r p m x s N ag O f A v C D w;have y:=e.T.g;clear z r p m e
 wrow_args A v C D w
 rename_i a7 a2 Z P a1 X an al a4 ah aj W aa ak a9 n a0 Q Y;clear n;refine enter_call ?_;obtain⟨l,ai,i,t⟩:=yb f;have b:=f.keeps;have o:j=975:=JN (w:=M) (λh c k=>b h c ((pG a).1 h c k)) y x
 subst o;rw[FJ];exact Sy a b t l i (by lia) (B6 i _) s λac G H I J=>yc (FI a b G H) I J
theorem all:PySem.Challenge.rw_jf0025_01.Holds:=Qi
end
end Mine
theorem PySem.Challenge.cw_jf0025_01_holds : PySem.Challenge.rw_jf0025_01.Holds :=
  Mine.all
