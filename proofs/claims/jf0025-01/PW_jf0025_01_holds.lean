import PyProof.Rows.All
import Wide.All
import OpenK.AllK
import Wide.FinOn
import KE.KSuperObj
import PyProof.SliceList
import PyProof.EqAt
import Wide.WTab
import PyProof.ExcBaseAll.Exception
import PyProof.ExcFactsAll.ValueError
import PyProof.ExcClass2
import PyProof.ListNew
import PyProof.GenObj
import PyProof.CollectWalk
import PyProof.GenArm
import PyProof.WalkInts
import PyProof.SumWalk
import PyProof.NeKinds
import PyProof.Rows.Chain
import PyProof.ListCopy
import Lean
import PySem.Challenge.RW_jf0025_01
open PySem PySem.W PySem.W.X PyProof.Rows
set_option Elab.async false
set_option maxRecDepth 100000
set_option linter.unusedVariables false
namespace Mine
noncomputable section
section
abbrev Wz:=Value
abbrev WC:=Params
abbrev WG:=World
abbrev WF:=Shared
abbrev WI:=GenState
abbrev WK:=Around
abbrev WL:=DictEntry
abbrev WH:=Result
abbrev WM:=Frame
abbrev WJ:=Program
abbrev WA(a:Type):=Option a
abbrev WD(a:Type):=Array a
abbrev Wy(a:Type):=List a
abbrev ui:=List Value
abbrev ug:=Array Value
abbrev uh:=List Nat
abbrev uk:=List Obj
theorem cg:True:=trivial
abbrev ci:= @wpAny_bind
abbrev cj:= @wpAny_pure
abbrev t8:= @List.mem_map_of_mem
abbrev t9:= @List.mem_of_getElem?
variable {a:Type}
theorem t6{b c:a}{d:List a}:b∈c::d->b=c\/b∈d:=List.mem_cons.mp
theorem ua{e:Type}{b:a->e}{d:List a}{c:e}:c∈d.map b->∃f,f∈d/\b f=c:=List.mem_map.mp
abbrev uc:= @List.mem_append_right
abbrev ue:= @List.mem_append_left
theorem ud{b:a}{c d:List a}:b∈c++d->b∈c\/b∈d:=List.mem_append.mp
abbrev gi:=Obj
end
variable {c:Nat}
section
def PW:WJ:=PySem.Challenge.pw_jf0025_01
def u6:Stmt:=(PW.main.body.getLast?).getD (.Pass ⟨0,0,0,0⟩)
def QV:WJ:={PW with main:={PW.main with body:=[u6]}}
def s5:DefRec:=match u6 with
 | .FunctionDef c a b _ _ _ e _ _ d=>⟨c,a,b,e,d⟩
 |_=>⟨Str.empty,⟨[],[],none,[],[],none,[]⟩,[],default,⟨0,0,0,0⟩⟩
def yj:Stmt->Wy Str
 | .FunctionDef a .. =>[a]
 | .ClassDef a .. =>[a]
 | .Assign [.Name a _] _ _=>[a]
 |_=>[]
def pu:Wy Str:=(PW.main.body.dropLast.flatMap yj).eraseDups
def JO(d:WJ)(f:WG)(c:Nat)(b:WA Wz):Nat->SharedT->Thread->WA SharedT
 |0,_,_=>none
 |n+1,e,a=>match through a with
  |true=>some e
  |false=>match stepOk c b a with
   |false=>none
   |true=>match stepT (denote treeTable) d f e a with
    |some (g,h)=>JO d f c b n g h
    |none=>none
theorem qJ{a:WJ}{d:WG}{c:Nat}{b:WA Wz}:∀(n:Nat) (g:SharedT) (f:Thread) (i:SharedT),JO a d c b n g f=some i->topRun treeTable a d c b n g.abs f=some i.abs
 |0,_,_,_,e=>by cases e
 |n+1,g,f,i,e=>by
  unfold JO at e;unfold topRun;cases k:through f with
  |true=>rw[k]at e;cases e;rfl
  |false=>
   rw[k]at e;cases j:stepOk c b f with
   |false=>rw[j]at e;cases e
   |true=>
    rw[j]at e;cases h:stepT (denote treeTable) a d g f with
    |none=>rw[h]at e;cases e
    |some l=>obtain⟨m,o⟩:=l;rw[h]at e;simp only[stepT_spec h];exact qJ n _ _ _ e
def Kc:uk->Nat->BT->BT
 |[],_,a=>a
 |o::c,b,a=>Kc c (b+1) (a.ins b o)
def yk(a:WC):BT:=Kc [boot_o_0 a,boot_o_1 a,boot_o_2 a,boot_o_3 a,boot_o_4 a,boot_o_5 a,boot_o_6 a,boot_o_7 a,boot_o_8 a,boot_o_9 a,boot_o_10 a] 0 .nil
def yl(a:WC)(b:OsState):SharedT:=⟨yk a,11,{},#[],boot_drawn,boot_toks,b⟩
theorem wI(a:WC)(b:OsState):(yl a b).abs=⟨boot_heap a,#[],boot_drawn,boot_toks,b⟩:=by have:(absHeap (yk a) 11 {})=boot_heap a:=rfl;show(⟨absHeap (yk a) 11 {},_,_,_,_⟩:WF)=_;rw[this];rfl
variable {b:Type}
def atEnd(c g:WJ)(f:Wy Str)(e:WF->b)(d a:WF):=match staticsOk (importedModules c.main.body) d.heap a.heap && namesBound c a.heap && gensDone a && laidKept d.heap a.heap with
 |true=>some (openSeen g f (importedModules c.main.body) (λ_=>true) true a,e a)
 |false=>none
theorem Cd{a e:WJ}{d:Wy Str}{f:WF->b}{Ya:WG->b}{ann:WA Wz}
 (p:opening a=plainProg a.main.scope.names)(r:Nat.ble 600 c=true)(q:∀i,fenceModules? a i=some i)
 (t:∀P:WC,((boot_heap P).isNs mainGlobals,(boot_heap P).nsMap mainGlobals "__annotations__")=(true,ann))
 (j:∀(g:WG) (h:OsState),(JO a g 11 ann c (yl g.params h) (topStub a)).bind (λi=>atEnd a e d f ⟨boot_heap g.params,#[],boot_drawn,boot_toks,h⟩ i.abs)=some (openGood e d,Ya g)):
  LeftO a e d (λ_=>true) f Ya c:=by
 intro g;obtain⟨x,v,o⟩:=Option.map_eq_some_iff.mp (boot_open (p:=a) (N:=c) p r q g);obtain⟨z,y,drawn,A,h⟩:=x;simp only[Prod.mk.injEq]at o;obtain⟨rfl,rfl,rfl,rfl⟩:=o;have j:=j g h;obtain⟨sT,s,m⟩:=Option.bind_eq_some_iff.mp j;have n:=qJ _ _ _ _ s;rw[wI]at n;unfold openEnds;rw[v,Option.bind_some];unfold topFrom;have l:=t g.params;simp only[Prod.mk.injEq]at l;have w:(boot_heap g.params).objs.size=11:=rfl;unfold atEnd at m;simp only[l.1,l.2,w];rw[show(#[]:WD WI).size==0 from rfl,Bool.and_self];simp only[n,Option.bind_some];revert m;cases staticsOk (importedModules a.main.body) (boot_heap g.params) sT.abs.heap && namesBound a sT.abs.heap && gensDone sT.abs && laidKept (boot_heap g.params) sT.abs.heap with
 |false=>intro k;cases k
 |true=>intro k;exact k
end
section
def Qj(d:WJ)(f:WG)(c:Nat)(b:WA Wz):Nat->SharedT->Thread->WA SharedT
 |0,_,_=>none
 |n+1,e,a=>match through a with
  |true=>some e
  |false=>match PySem.W.Fast.tw6613529449190102663 c b a with
   |false=>none
   |true=>match PySem.W.Fast.tw10156331382660048174 (PySem.W.Fast.tw11892475500146522536 PySem.W.Fast.tw14364793385576792824) d f e a with
    |some (g,h)=>Qj d f c b n g h
    |none=>none
theorem ym(d:WJ)(f:WG)(c:Nat)(b:WA Wz):∀n e a,JO d f c b n e a=Qj d f c b n e a
 |0,_,_=>rfl
 |n+1,e,a=>by
  unfold JO Qj;rw[<-PySem.W.Fast.te10156331382660048174,<-PySem.W.Fast.te11892475500146522536,<-PySem.W.Fast.te14364793385576792824,<-PySem.W.Fast.te6613529449190102663];cases through a with
  |true=>rfl
  |false=>
   cases stepOk c b a with
   |false=>rfl
   |true=>
    simp only;cases stepT (denote treeTable) d f e a with
    |none=>rfl
    |some g=>exact ym d f c b n _ _
variable {a:Type}
def s6(c g:WJ)(f:Wy Str)(e:WF->a)(d b:WF):=match staticsOk (importedModules c.main.body) d.heap b.heap && namesBound c b.heap && gensDone b && laidKept d.heap b.heap with
 |true=>some (PySem.W.Fast.tw4187177175401517315 g f (importedModules c.main.body) (λ_=>true) true b,e b)
 |false=>none
theorem wJ(d e:WJ)(c:Wy Str)(b:WF->a)(f g:WF):atEnd d e c b f g=s6 d e c b f g:=by
 unfold atEnd s6;rw[<-PySem.W.Fast.te4187177175401517315]
 try rfl
end
def RW:OpenLaw:=PySem.Challenge.rw_jf0025_01
theorem QX:RW.wellSaid=true:=by rw[PySem.W.Fast.te9446332074065402090];kernel_rfl
theorem wK:RW.row.toRowW.promised:=⟨[.list []],by kernel_rfl,by kernel_rfl⟩
def S(a:uh):Str:=⟨a.toArray⟩
def B(a:uh):WD UInt8:=(a.map Nat.toUInt8).toArray
def E(b:WC)(a:Str)(c:Nat)(d:Wz):WL:=⟨PyData.keyHash b a,.str a c,d⟩
def zS(a:Str)(b:Nat):Wz:= .str a b
def zB(a:WC):Nat->Wy String->Wy WL
 |_,[]=>[]
 |n,b::c=>E a b n (.builtin b)::zB a (n+1) c
def zT(a:WC):Nat->Wy String->Wy WL
 |_,[]=>[]
 |n,b::c=>E a b n (.type b)::zT a (n+1) c
def zA(b:WC)(c:Wy (Str×Nat×Nat)):Wy WL:=c.map λa=>E b a.1 a.2.1 (.ref a.2.2)
def zI(a:Int):Wz:= .int a 0
def zR(a:Nat):Wz:= .ref a
def rZ:Nat->Wz
 |0=>.none
 |n+1=>.ref (n+1)
def cO(b:Str)(i:Nat)(c:Str)(j k:Nat)(a d e f g:Int)(v1 v2 v3 v4 v5 v6:Nat)(h:Int)(l:Nat):gi:=⟨.type "code",none,.fields #[zS b i,zS c j,zS "/claim/cut.py" k,zI a,zI d,zI e,zI f,zI g,rZ v1,.bool true,zI 181,rZ v2,rZ v3,rZ v4,rZ v5,rZ v6,zI h,zI a,zS "/claim/cut.py" l],#[]⟩
def inner:Stmt->Wy Stmt
 | .FunctionDef _ _ a .. =>a
 | .ClassDef _ _ _ a .. =>a
 |_=>[]
def mj:Wy Stmt->uh->Stmt
 |b,[a]=>(b[a]?).getD (.Pass ⟨0,0,0,0⟩)
 |b,a::c=>mj (inner ((b[a]?).getD (.Pass ⟨0,0,0,0⟩))) c
 |_,[]=>.Pass ⟨0,0,0,0⟩
def Ke(i:uh)(k:Str)(d:Wy (Str×Addr))(f g doc j:Wz)(b:WA Addr)(code e:Wz):FuncData:=match mj PW.main.body i with
 | .FunctionDef h a c _ _ _ l .. =>{name:=h,qualname:=k,params:=a,body:= .stmts c,scope:=l,globals:=mainGlobals,closure:=d,defaults:=f,kwdefaults:=g,doc:=doc,pyModule:=j,annotations:=b,code:=code,closureTuple:=e,builtins:=builtinsNs}
 |_=>default
def cP(d e:Str)(b:Nat)(f g h:Int)(a:Nat)(c:Nat):gi:=cO d b e (b+1) (b+2) f g 0 0 h a (a+1) 0 (a+2) (a+3) (a+4) c (c+1)
def cQ(a:Str)(f:Nat)(b c d:Int)(g e:Nat):gi:=cP a a f b c d g e
def fR(c:uh)(e:Str)(b d:Wz)(a:Nat):gi:=⟨.type "function",none,.func (Ke c e [] .none .none b d none (zR a) .none),#[]⟩
def fQ(c:uh)(d:Str)(b:Wz)(a:Nat):gi:=fR c d b (zS "dulwich.objects" 309) a
def T1(a:WC):gi:=⟨(.type "dict"),none,(.dict ([E a "__name__" 1 (zS "builtins" 160),E a "__doc__" 2 (.builtin "builtins.__doc__:str#opaque"),E a "__package__" 3 (.builtin "builtins.__package__:str#opaque"),E a "__loader__" 4 (.builtin "builtins.__loader__:shared#opaque"),E a "__spec__" 5 (.builtin "builtins.__spec__#opaque")]++zB a 6 ["__build_class__","__\x69mport__","abs","all","any","ascii","bin","breakpoint","callable","chr","compile","delattr","dir","divmod","eval","exec","format","getattr","globals","hasattr","hash","hex","id","input","isinstance","issubclass","iter","aiter","len","locals"]++zB a 36 ["max","min","next","anext","oct","ord","pow","print","repr","round","setattr","sorted","sum","vars"]++[E a "None" 50 .none,E a "Ellipsis" 51 .ellipsis,E a "NotImplemented" 52 .notImplemented,E a "False" 53 (.bool false),E a "True" 54 (.bool true)]++zT a 55 ["bool","memoryview","bytearray","bytes","classmethod","complex","dict","enumerate","filter","float","frozenset","property","int","list","map","object","range","reversed","set","slice","staticmethod","str","super","tuple","type","zip"]++[E a "__debug__" 81 (.bool true)]++zT a 82 ["BaseException","BaseExceptionGroup","Exception","GeneratorExit","KeyboardInterrupt","SystemExit","ArithmeticError","AssertionError","AttributeError","BufferError","EOFError","ImportError","LookupError","MemoryError","NameError","OSError","ReferenceError","RuntimeError","StopAsyncIteration","StopIteration","SyntaxError","SystemError","TypeError","ValueError","Warning","FloatingPointError","OverflowError","ZeroDivisionError","BytesWarning","DeprecationWarning"]++zT a 112 ["EncodingWarning","FutureWarning","ImportWarning","PendingDeprecationWarning","ResourceWarning","RuntimeWarning","SyntaxWarning","UnicodeWarning","UserWarning","BlockingIOError","ChildProcessError","ConnectionError","FileExistsError","FileNotFoundError","InterruptedError","IsADirectoryError","NotADirectoryError","PermissionError","ProcessLookupError","TimeoutError","IndentationError","_IncompleteInputError","IndexError","KeyError","ModuleNotFoundError","NotImplementedError","PythonFinalizationError","RecursionError","UnboundLocalError","UnicodeError"]++zT a 142 ["BrokenPipeError","ConnectionAbortedError","ConnectionRefusedError","ConnectionResetError","TabError","UnicodeDecodeError","UnicodeEncodeError","UnicodeTranslateError","ExceptionGroup"]++[E a "EnvironmentError" 151 (.type "OSError"),E a "IOError" 152 (.type "OSError")]++zB a 153 ["open"]++[E a "quit" 154 (.builtin "builtins.quit#opaque"),E a "exit" 155 (.builtin "builtins.exit#opaque"),E a "copyright" 156 (.builtin "builtins.copyright#opaque"),E a "credits" 157 (.builtin "builtins.credits#opaque"),E a "license" 158 (.builtin "builtins.license#opaque"),E a "help" 159 (.builtin "builtins.help#opaque")]).toArray 159),#[]⟩
def Qk(a:WC):gi:=⟨.none,none,(.dict #[E a "type.__subclasses__.Exception.0" 214 (zI 31),E a "type.__subclasses__.Exception.n" 215 (zI 1)] 2),#[]⟩
def Ql(a:WC):gi:=⟨(.type "dict"),none,(.dict ([E a "__name__" 165 (zS "law_jf0025_01" 1466),E a "__doc__" 166 .none,E a "__package__" 167 .none,E a "__loader__" 168 (.builtin "__main__.__loader__#opaque"),E a "__spec__" 169 .none]++zA a [("__annotations__",170,6),("__builtins__",171,4)]++[E a "__file__" 173 (zS "/claim/cut.py" 172),E a "__cached__" 174 .none]++zA a [("_wall",193,21),("FileFormatException",217,31),("ObjectFormatException",235,44),("ObjectFormat",285,70),("SHA1",307,76),("DEFAULT_OBJECT_FORMAT",308,76),("_tuplegetter",367,116)]++[E a "S_IFDIR" 369 (.int (16384) 368),E a "S_IFREG" 371 (.int (32768) 370),E a "S_IFLNK" 373 (.int (40960) 372)]++zA a [("S_IFMT",380,127),("S_ISDIR",387,134),("hexlify",393,139),("_digit",400,146),("unhexlify",406,151),("ObjectID",413,158),("RawObjectID",420,165)]++[E a "_TREE_HEADER" 422 (.bytes (B [116,114,101,101]) 421),E a "_PARENT_HEADER" 424 (.bytes (B [112,97,114,101,110,116]) 423),E a "_AUTHOR_HEADER" 426 (.bytes (B [97,117,116,104,111,114]) 425),E a "_COMMITTER_HEADER" 428 (.bytes (B [99,111,109,109,105,116,116,101,114]) 427),E a "_ENCODING_HEADER" 430 (.bytes (B [101,110,99,111,100,105,110,103]) 429),E a "_GPGSIG_HEADER" 432 (.bytes (B [103,112,103,115,105,103]) 431),E a "S_IFGITLINK" 434 (.int (57344) 433),E a "MAX_TIME" 436 (.int (9223372036854775807) 435)]++zA a [("sha_to_hex",445,172),("hex_to_sha",453,179),("valid_hexsha",461,186),("check_hexsha",470,193),("check_identity",481,200),("check_time",489,207),("git_line",498,214),("is_commit",506,221),("is_tree",514,228),("ShaFile",635,311),("Blob",729,389),("_parse_message",746,398),("_format_message",758,405),("TreeEntry",886,476),("parse_tree",906,487),("serialize_tree",917,494),("sorted_tree_items",931,501),("key_entry",942,508),("key_entry_name_order",950,515),("Tree",1086,610),("parse_timezone",1100,619),("format_timezone",1111,627),("parse_time_entry",1128,634),("format_time_entry",1140,641),("_parse_commit",1161,649),("_strip_signature_headers",1173,656),("Commit",1465,888),("_law_zones",1473,897),("_law_people",1479,904),("_law_values",1485,911)]++zA a [("_law_next",1494,918),("_law_state",1500,923),("_law_number",1510,930),("_law_person",1519,937),("_law_entry",1529,944),("_law_rows",1535,949),("_law_refused",1542,956),("_law_spoilt",1552,963),("_law_made",1566,970),("law",1572,975)]).toArray 74),#[]⟩
def T2(a:WC):gi:=⟨(.type "module"),(some 0),.plain,#[]⟩
def Ce(a:WC):gi:=⟨(.type "dict"),none,(.dict #[E a "__module__" 203 (zS "dulwich.errors" 194),E a "__firstlineno__" 207 (.int (5) 206),E a "__doc__" 209 (zS "Base class for exceptions relating to reading git file formats." 208),E a "__static_attributes__" 211 (zR 29),E a "__weakref__" 213 (zR 32)] 2),#[]⟩
def Kf(a:WC):gi:=⟨(.type "type"),none,(.cls {name:= "FileFormatException",bases:=[(.type "Exception")],mro:=[(zR 31),(.type "Exception"),(.type "BaseException"),(.type "object")],ns:=30,qualname:= "FileFormatException",hasDict:=true,slotNames:=[],subclasses:=[(zR 44)],abstract:=false,collection:=none,hasDel:=false}),#[(some (zR 22)),none,(some (zS "FileFormatException" 196)),(some (zS "FileFormatException" 204)),(some (.builtin "Exception.__new__")),(some (.bool true))]⟩
def QY(a:WC):gi:=⟨(.type "dict"),none,(.dict #[E a "__module__" 225 (zS "dulwich.errors" 194),E a "__firstlineno__" 229 (.int (7) 228),E a "__doc__" 231 (zS "Indicates an error parsing an object." 230),E a "__static_attributes__" 233 (zR 42)] 1),#[]⟩
def Kg(a:WC):gi:=⟨(.type "type"),none,(.cls {name:= "ObjectFormatException",bases:=[(zR 31)],mro:=[(zR 44),(zR 31),(.type "Exception"),(.type "BaseException"),(.type "object")],ns:=43,qualname:= "ObjectFormatException",hasDict:=true,slotNames:=[],subclasses:=[],abstract:=false,collection:=none,hasDel:=false}),#[(some (zR 35)),none,(some (zS "ObjectFormatException" 218)),(some (zS "ObjectFormatException" 226)),(some (.builtin "Exception.__new__")),(some (.bool true))]⟩
def Kh(a:WC):gi:=cQ "_digit" 394 62 1 3 140 398
def Ki(a:WC):gi:=fQ [16] "_digit" .none 145
def Kj(a:WC):gi:=cO "unhexlify" 401 "unhexlify" 402 403 70 1 0 0 3 147 148 0 0 0 149 404 405
def Kk(a:WC):gi:=fQ [17] "unhexlify" .none 150
def Kl(a:WC):gi:=cQ "ObjectID" 407 74 1 3 152 411
def Km(a:WC):gi:=fQ [18] "ObjectID" .none 157
def Kn(a:WC):gi:=cQ "valid_hexsha" 454 97 1 3 180 458
def Ko(a:WC):gi:=fQ [30] "valid_hexsha" (zS "Check if a hex string is a valid SHA1 or SHA256.\n\nArgs:\n    hex: Hex string to validate\n\nReturns:\n    True if valid SHA1 (40 chars) or SHA256 (64 chars), False otherwise\n" 460) 185
def Kp(a:WC):gi:=cQ "check_hexsha" 462 114 2 3 187 467
def Kq(a:WC):gi:=fQ [31] "check_hexsha" (zS "Check if a string is a valid hex sha string.\n\nArgs:\n  hex: Hex string to check\n  error_msg: Error message to use in exception\nRaises:\n  ObjectFormatException: Raised when the string is not valid\n" 469) 192
def Kr(a:WC):gi:=cQ "check_identity" 471 125 2 3 194 478
def Ks(a:WC):gi:=fQ [32] "check_identity" (zS "Check if the specified identity is valid.\n\nThis will raise an exception if the identity is not valid.\n\nArgs:\n  identity: Identity string\n  error_msg: Error message to use in exception\n" 480) 199
def Kt(a:WC):gi:=cQ "check_time" 482 140 1 3 201 486
def Ku(a:WC):gi:=fQ [33] "check_time" (zS "Check if the specified time is not prone to overflow error.\n\nThis will raise an exception if the time is not valid.\n\nArgs:\n  time_seconds: time in seconds\n\n" 488) 206
def Kv(a:WC):gi:=cQ "git_line" 490 151 2 3 208 495
def Kw(a:WC):gi:=fQ [34] "git_line" (zS "Formats items into a space separated line." 497) 213
def Kx(a:WC):gi:=cQ "is_commit" 499 154 1 3 215 503
def Ky(a:WC):gi:=fQ [35] "is_commit" (zS "Check if a ShaFile is a Commit." 505) 220
def Kz(a:WC):gi:=cQ "is_tree" 507 157 1 3 222 511
def KA(a:WC):gi:=fQ [36] "is_tree" (zS "Check if a ShaFile is a Tree." 513) 227
def KC(a:WC):gi:=cP "__init__" "ShaFile.__init__" 530 163 1 3 236 534
def FK(a:WC):gi:=fQ [37,1] "ShaFile.__init__" (zS "Initialize a ShaFile." 536) 241
def KD(a:WC):gi:=cP "as_raw_chunks" "ShaFile.as_raw_chunks" 538 170 1 3 243 542
def KG(a:WC):gi:=fQ [37,2] "ShaFile.as_raw_chunks" (zS "Return chunks with serialization of the object.\n\nReturns: List of strings, not necessarily one per line\n" 544) 248
def KH(a:WC):gi:=cP "as_raw_string" "ShaFile.as_raw_string" 546 182 1 3 250 550
def KI(a:WC):gi:=fQ [37,3] "ShaFile.as_raw_string" (zS "Return raw string with serialization of the object.\n\nReturns: String object\n" 552) 255
def KJ(a:WC):gi:=cP "set_raw_string" "ShaFile.set_raw_string" 554 189 2 3 257 559
def KL(a:WC):gi:=fQ [37,4] "ShaFile.set_raw_string" (zS "Set the contents of this object from a serialized string." 561) 262
def KN(a:WC):gi:=cP "set_raw_chunks" "ShaFile.set_raw_chunks" 563 195 2 3 264 568
def KO(a:WC):gi:=fQ [37,5] "ShaFile.set_raw_chunks" (zS "Set the contents of this object from a list of chunks." 570) 269
def KP(a:WC):gi:=cP "from_string" "ShaFile.from_string" 572 202 2 3 271 578
def KQ(a:WC):gi:=⟨(.type "function"),none,(.func (Ke [37,6] "ShaFile.from_string" [] .none .none (zS "Create a ShaFile from a string." 580) (zS "dulwich.objects" 309) (some 280) (zR 276) .none)),#[]⟩
def KR(a:WC):gi:=⟨(.type "classmethod"),(some 278),(.fields #[(zR 277),(.bool false)]),#[]⟩
def KS(a:WC):gi:=cP "copy" "ShaFile.copy" 608 215 1 3 295 613
def KU(a:WC):gi:=fQ [37,9] "ShaFile.copy" (zS "Create a new copy of this SHA1 object from its raw string." 615) 300
def yn(a:WC):gi:=⟨(.type "dict"),none,(.dict ([E a "__module__" 522 (zS "dulwich.objects" 309),E a "__firstlineno__" 526 (.int (160) 525),E a "__doc__" 528 (zS "A git SHA file." 527)]++zA a [("__init__",537,242),("as_raw_chunks",545,249),("as_raw_string",553,256),("set_raw_string",562,263),("set_raw_chunks",571,270),("from_string",593,279),("_header",600,287),("raw_length",607,294),("copy",616,301),("get_id",624,308),("__static_attributes__",629,309),("__dict__",631,312),("__weakref__",633,313)]).toArray 3),#[]⟩
def yo(a:WC):gi:=⟨(.type "type"),none,(.cls {name:= "ShaFile",bases:=[(.type "object")],mro:=[(zR 311),(.type "object")],ns:=310,qualname:= "ShaFile",hasDict:=true,slotNames:=[],subclasses:=[(zR 389),(zR 610),(zR 888)],abstract:=false,collection:=none,hasDel:=false}),#[none,none,(some (zS "ShaFile" 515)),(some (zS "ShaFile" 523)),(some (.builtin "object.__new__")),(some (.bool true))]⟩
def KV(a:WC):gi:=⟨.none,none,(.fields #[]),#[]⟩
def FL(a:WC):gi:=cQ "_parse_message" 730 268 1 35 392 743
def KW(a:WC):gi:=fQ [39] "_parse_message" (zS "Parse a message with a list of fields and a body.\n\nArgs:\n  chunks: the raw chunks of the tag or commit object.\nReturns: iterator of tuples of (field, value), one per header line, in the\n    order read from the text, possibly including duplicates. Includes a\n    field named None for the freeform tag/commit text.\n" 745) 397
def KX(a:WC):gi:=cQ "_format_message" 747 309 2 35 399 756
def KY(a:WC):gi:=fQ [40] "_format_message" .none 404
def KZ(a:WC):gi:=cQ "parse_timezone" 1087 532 1 3 613 1097
def K0(a:WC):gi:=fQ [48] "parse_timezone" (zS "Parse a timezone text fragment (e.g. '+0100').\n\nArgs:\n  text: Text to parse.\nReturns: Tuple with timezone as seconds difference to UTC\n    and a boolean indicating whether this was a UTC timezone\n    prefixed with a negative sign (-0000).\n" 1099) 618
def K1(a:WC):gi:=⟨(.type "tuple"),none,(.seq #[(.bool false)] 0),#[]⟩
def K2(a:WC):gi:=cQ "format_timezone" 1101 553 2 3 621 1108
def K3(a:WC):gi:=⟨(.type "function"),none,(.func (Ke [49] "format_timezone" [] (zR 620) .none (zS "Format a timezone for Git serialization.\n\nArgs:\n  offset: Timezone offset as seconds difference to UTC\n  unnecessary_negative_timezone: Whether to use a minus sign for\n    UTC or positive timezones (-0000 and --700 rather than +0000 / +0700).\n" 1110) (zS "dulwich.objects" 309) none (zR 626) .none)),#[]⟩
def K4(a:WC):gi:=cQ "parse_time_entry" 1112 570 1 3 628 1125
def K5(a:WC):gi:=fQ [50] "parse_time_entry" (zS "Parse event.\n\nArgs:\n  value: Bytes representing a git commit/tag line\nRaises:\n  ObjectFormatException in case of parsing error (malformed\n  field date)\nReturns: Tuple of (author, time, (timezone, timezone_neg_utc))\n" 1127) 633
def K6(a:WC):gi:=cQ "format_time_entry" 1129 593 3 3 635 1137
def K7(a:WC):gi:=fQ [51] "format_time_entry" (zS "Format an event." 1139) 640
def K8(a:WC):gi:=⟨(.type "tuple"),none,(.seq #[(.bytes (B [103,112,103,115,105,103]) 431)] 0),#[]⟩
def K9(a:WC):gi:=cQ "_parse_commit" 1141 597 2 3 643 1158
def La(a:WC):gi:=⟨(.type "function"),none,(.func (Ke [52] "_parse_commit" [] (zR 642) .none (zS "Parse a commit object from chunks.\n\nWhere a header is repeated, the first tree, author, committer and\nencoding are used, and only the parents directly following the tree.\nRepeated signature headers are concatenated.\n\nArgs:\n  chunks: Chunks to parse\n  signature_header: Name of the signature header for the hash algorithm\nReturns: Tuple of (tree, parents, author_info, commit_info,\n    encoding, mergetag, gpgsig, message, extra)\n" 1160) (zS "dulwich.objects" 309) none (zR 648) .none)),#[]⟩
def Lb(a:WC):gi:=cQ "_strip_signature_headers" 1162 661 1 3 650 1170
def Lc(a:WC):gi:=fQ [53] "_strip_signature_headers" (zS "Return the commit payload covered by a signature.\n\nThis drops every header starting with \"gpgsig\" (both ``gpgsig`` and\n``gpgsig-sha256``) along with their continuation lines.\n" 1172) 655
def Ld(a:WC):gi:=⟨(.type "cell"),none,(.cell (some (zR 888))),#[]⟩
def Le(a:WC):gi:=cP "__init__" "Commit.__init__" 1193 691 1 3 666 1198
def Lf(a:WC):gi:=⟨(.type "function"),none,(.func (Ke [54,3] "Commit.__init__" [("__class__",660)] .none .none (zS "Initialize an empty Commit." 1200) (zS "dulwich.objects" 309) none (zR 671) (zR 665))),#[]⟩
def Lg(a:WC):gi:=cO "_deserialize" 1202 "Commit._deserialize" 1203 1204 701 2 0 0 3 673 674 0 0 0 675 1205 1206
def Lh(a:WC):gi:=fQ [54,4] "Commit._deserialize" .none 676
def Li(a:WC):gi:=cP "check" "Commit.check" 1208 712 1 3 678 1216
def Lj(a:WC):gi:=fQ [54,5] "Commit.check" (zS "Check this object for internal consistency.\n\nRaises:\n  ObjectFormatException: if the object is malformed in some way\n" 1218) 683
def Lk(a:WC):gi:=cP "raw_without_sig" "Commit.raw_without_sig" 1220 755 1 3 685 1224
def Ll(a:WC):gi:=fQ [54,6] "Commit.raw_without_sig" (zS "Return raw string serialization without the GPG/SSH signature.\n\nself.gpgsig is a signature for the returned raw byte string serialization.\n" 1226) 690
def Lm(a:WC):gi:=⟨.none,none,(.fields #[]),#[]⟩
def FM(a:WC):gi:=cP "_serialize" "Commit._serialize" 1228 762 1 3 692 1234
def Ln(a:WC):gi:=fQ [54,7] "Commit._serialize" .none 697
def Lo(a:WC):gi:=cP "tree" "Commit.tree" 1237 785 1 3 699 1241
def Lp(a:WC):gi:=fQ [54,8] "Commit.tree" (zS "Tree that is the state of this commit" 1243) 704
def Lq(a:WC):gi:=cP "tree" "Commit.tree" 1247 790 2 3 708 1252
def Lr(a:WC):gi:=fQ [54,9] "Commit.tree" .none 713
def Ls(a:WC):gi:=⟨(.type "property"),none,(.fields #[(zR 705),(zR 714),.none,(zS "Tree that is the state of this commit" 1243),(zS "tree" 1245),(.bool true)]),#[]⟩
def Lu(a:WC):gi:=cP "parents" "Commit.parents" 1256 795 1 3 716 1260
def Lv(a:WC):gi:=fQ [54,10] "Commit.parents" (zS "Parents of this commit, by their SHA1." 1262) 721
def Lw(a:WC):gi:=cP "parents" "Commit.parents" 1266 800 2 3 725 1271
def Lx(a:WC):gi:=fQ [54,11] "Commit.parents" (zS "Set a list of parents of this commit." 1273) 730
def Ly(a:WC):gi:=⟨(.type "property"),none,(.fields #[(zR 722),(zR 731),.none,(zS "Parents of this commit, by their SHA1." 1262),(zS "parents" 1264),(.bool true)]),#[]⟩
def Lz(a:WC):gi:=cP "author" "Commit.author" 1276 806 1 3 733 1280
def LA(a:WC):gi:=fQ [54,12] "Commit.author" (zS "The name of the author of the commit" 1282) 738
def LB(a:WC):gi:=cP "author" "Commit.author" 1286 811 2 3 742 1291
def LD(a:WC):gi:=fQ [54,13] "Commit.author" .none 747
def LF(a:WC):gi:=⟨(.type "property"),none,(.fields #[(zR 739),(zR 748),.none,(zS "The name of the author of the commit" 1282),(zS "author" 1284),(.bool true)]),#[]⟩
def LG(a:WC):gi:=cP "committer" "Commit.committer" 1295 816 1 3 750 1299
def LH(a:WC):gi:=fQ [54,14] "Commit.committer" (zS "The name of the committer of the commit" 1301) 755
def LI(a:WC):gi:=cP "committer" "Commit.committer" 1305 821 2 3 759 1310
def LJ(a:WC):gi:=fQ [54,15] "Commit.committer" .none 764
def LK(a:WC):gi:=⟨(.type "property"),none,(.fields #[(zR 756),(zR 765),.none,(zS "The name of the committer of the commit" 1301),(zS "committer" 1303),(.bool true)]),#[]⟩
def LL(a:WC):gi:=cP "message" "Commit.message" 1314 826 1 3 767 1318
def LM(a:WC):gi:=fQ [54,16] "Commit.message" (zS "The commit message" 1320) 772
def LN(a:WC):gi:=cP "message" "Commit.message" 1324 831 2 3 776 1329
def LO(a:WC):gi:=fQ [54,17] "Commit.message" .none 781
def LQ(a:WC):gi:=⟨(.type "property"),none,(.fields #[(zR 773),(zR 782),.none,(zS "The commit message" 1320),(zS "message" 1322),(.bool true)]),#[]⟩
def LR(a:WC):gi:=cP "commit_time" "Commit.commit_time" 1333 836 1 3 784 1337
def LS(a:WC):gi:=fQ [54,18] "Commit.commit_time" (zS "The timestamp of the commit." 1339) 789
def LU(a:WC):gi:=cP "commit_time" "Commit.commit_time" 1343 841 2 3 793 1348
def LV(a:WC):gi:=fQ [54,19] "Commit.commit_time" .none 798
def LW(a:WC):gi:=⟨(.type "property"),none,(.fields #[(zR 790),(zR 799),.none,(zS "The timestamp of the commit." 1339),(zS "commit_time" 1341),(.bool true)]),#[]⟩
def LX(a:WC):gi:=cP "commit_timezone" "Commit.commit_timezone" 1352 846 1 3 801 1356
def LY(a:WC):gi:=fQ [54,20] "Commit.commit_timezone" (zS "The zone the commit time is in" 1358) 806
def LZ(a:WC):gi:=cP "commit_timezone" "Commit.commit_timezone" 1362 851 2 3 810 1367
def L0(a:WC):gi:=fQ [54,21] "Commit.commit_timezone" .none 815
def L1(a:WC):gi:=⟨(.type "property"),none,(.fields #[(zR 807),(zR 816),.none,(zS "The zone the commit time is in" 1358),(zS "commit_timezone" 1360),(.bool true)]),#[]⟩
def L3(a:WC):gi:=cP "author_time" "Commit.author_time" 1371 856 1 3 818 1375
def L4(a:WC):gi:=fQ [54,22] "Commit.author_time" (zS "The timestamp the commit was written." 1377) 823
def L5(a:WC):gi:=cP "author_time" "Commit.author_time" 1381 861 2 3 827 1386
def L6(a:WC):gi:=fQ [54,23] "Commit.author_time" .none 832
def L7(a:WC):gi:=⟨(.type "property"),none,(.fields #[(zR 824),(zR 833),.none,(zS "The timestamp the commit was written." 1377),(zS "author_time" 1379),(.bool true)]),#[]⟩
def L8(a:WC):gi:=cP "author_timezone" "Commit.author_timezone" 1390 866 1 3 835 1394
def L9(a:WC):gi:=fQ [54,24] "Commit.author_timezone" (zS "Returns the zone the author time is in." 1396) 840
def Ma(a:WC):gi:=cP "author_timezone" "Commit.author_timezone" 1400 871 2 3 844 1405
def Mb(a:WC):gi:=fQ [54,25] "Commit.author_timezone" .none 849
def Mc(a:WC):gi:=⟨(.type "property"),none,(.fields #[(zR 841),(zR 850),.none,(zS "Returns the zone the author time is in." 1396),(zS "author_timezone" 1398),(.bool true)]),#[]⟩
def Md(a:WC):gi:=cP "encoding" "Commit.encoding" 1409 876 1 3 852 1413
def Me(a:WC):gi:=fQ [54,26] "Commit.encoding" (zS "Encoding of the commit message." 1415) 857
def Mf(a:WC):gi:=cP "encoding" "Commit.encoding" 1419 881 2 3 861 1424
def Mg(a:WC):gi:=fQ [54,27] "Commit.encoding" .none 866
def Mh(a:WC):gi:=⟨(.type "property"),none,(.fields #[(zR 858),(zR 867),.none,(zS "Encoding of the commit message." 1415),(zS "encoding" 1417),(.bool true)]),#[]⟩
def Mi(a:WC):gi:=cP "gpgsig" "Commit.gpgsig" 1428 886 1 3 869 1432
def Mj(a:WC):gi:=fQ [54,28] "Commit.gpgsig" (zS "GPG Signature." 1434) 874
def Mk(a:WC):gi:=cP "gpgsig" "Commit.gpgsig" 1438 891 2 3 878 1443
def Ml(a:WC):gi:=fQ [54,29] "Commit.gpgsig" .none 883
def Mm(a:WC):gi:=⟨(.type "property"),none,(.fields #[(zR 875),(zR 884),.none,(zS "GPG Signature." 1434),(zS "gpgsig" 1436),(.bool true)]),#[]⟩
def Mn(a:WC):gi:=⟨(.type "dict"),none,(.dict ([E a "__module__" 1181 (zS "dulwich.objects" 309),E a "__firstlineno__" 1185 (.int (686) 1184),E a "__doc__" 1187 (zS "A git commit object." 1186),E a "type_name" 1190 (.bytes (B [99,111,109,109,105,116]) 1189),E a "type_num" 1192 (.int (1) 1191)]++zA a [("__init__",1201,672),("_deserialize",1207,677),("check",1219,684),("raw_without_sig",1227,691),("_serialize",1236,698),("tree",1245,715),("parents",1264,732),("author",1284,749),("committer",1303,766),("message",1322,783),("commit_time",1341,800),("commit_timezone",1360,817),("author_time",1379,834),("author_timezone",1398,851),("encoding",1417,868),("gpgsig",1436,885),("__static_attributes__",1462,886)]).toArray 2),#[]⟩
def u7(a:WC):gi:=⟨(.type "type"),none,(.cls {name:= "Commit",bases:=[(zR 311)],mro:=[(zR 888),(zR 311),(.type "object")],ns:=887,qualname:= "Commit",hasDict:=true,slotNames:=[],subclasses:=[],abstract:=false,collection:=none,hasDel:=false}),#[(some (zR 657)),none,(some (zS "Commit" 1174)),(some (zS "Commit" 1182)),(some (.builtin "object.__new__")),(some (.bool true))]⟩
def Mo(a:WC):gi:=cQ "_law_zones" 1468 896 0 3 891 1471
def Mp(a:WC):gi:=fR [56] "_law_zones" .none (zS "law_jf0025_01" 1466) 896
def Mq(a:WC):gi:=cQ "_law_people" 1474 898 0 3 898 1477
def Mr(a:WC):gi:=fR [57] "_law_people" .none (zS "law_jf0025_01" 1466) 903
def Ms(a:WC):gi:=cQ "_law_values" 1480 900 0 3 905 1483
def Mt(a:WC):gi:=fR [58] "_law_values" .none (zS "law_jf0025_01" 1466) 910
def Mu(a:WC):gi:=cQ "_law_next" 1486 902 2 3 912 1492
def Mv(a:WC):gi:=fR [59] "_law_next" .none (zS "law_jf0025_01" 1466) 917
def Mw(a:WC):gi:=cO "_law_state" 1495 "_law_state" 1496 1497 908 1 0 0 3 919 920 0 0 0 921 1498 1499
def Mx(a:WC):gi:=fR [60] "_law_state" .none (zS "law_jf0025_01" 1466) 922
def My(a:WC):gi:=cQ "_law_number" 1501 910 1 3 924 1508
def Mz(a:WC):gi:=fR [61] "_law_number" .none (zS "law_jf0025_01" 1466) 929
def MA(a:WC):gi:=cQ "_law_person" 1511 915 1 3 931 1517
def MB(a:WC):gi:=fR [62] "_law_person" .none (zS "law_jf0025_01" 1466) 936
def MC(a:WC):gi:=cQ "_law_entry" 1520 919 1 3 938 1527
def ME(a:WC):gi:=fR [63] "_law_entry" .none (zS "law_jf0025_01" 1466) 943
def MF(a:WC):gi:=cO "_law_rows" 1530 "_law_rows" 1531 1532 922 2 0 0 3 945 946 0 0 0 947 1533 1534
def MG(a:WC):gi:=fR [64] "_law_rows" .none (zS "law_jf0025_01" 1466) 948
def MH(a:WC):gi:=cQ "_law_refused" 1536 924 1 3 950 1540
def MI(a:WC):gi:=fR [65] "_law_refused" .none (zS "law_jf0025_01" 1466) 955
def MJ(a:WC):gi:=cQ "_law_spoilt" 1543 930 3 3 957 1550
def MK(a:WC):gi:=fR [66] "_law_spoilt" .none (zS "law_jf0025_01" 1466) 962
def ML(a:WC):gi:=cQ "_law_made" 1553 951 7 3 964 1564
def MN(a:WC):gi:=fR [67] "_law_made" .none (zS "law_jf0025_01" 1466) 969
def MO(a:WC):gi:=⟨.none,none,(.fields #[]),#[]⟩
def FN(a:WC):gi:=cO "law" 1567 "law" 1568 1569 961 1 0 0 3 971 972 0 0 0 973 1570 1571
def MP(a:WC):gi:=fR [68] "law" .none (zS "law_jf0025_01" 1466) 974
def zU(a:gi):KT:= .node (some a) .nil .nil
def zP(a:KT):KT:= .node none .nil a
def zN(a b:KT):KT:= .node none a b
def zY(c:gi)(a b:KT):KT:= .node (some c) a b
def kt(a:WC):KT:=(zY (T1 a) (zN (zY (Ql a) (zN (zN (zY (Kf a) (zN (zN (zU (KH a)) .nil) .nil) (zN (zN (zP (zU (LV a))) (zN (zU (Le a)) .nil)) .nil)) (zN (zN (zN (zP (zU (LQ a))) (zN (zU (Lb a)) (zU (Mt a)))) (zY (Ku a) .nil (zP (zU (MP a))))) (zN (zN (zP (zU (LZ a))) (zP (zU (MC a)))) .nil))) (zN (zN (zN (zN (zU (KL a)) (zP (zU (Mq a)))) (zU (Kr a))) (zN (zN (zP (zU (LY a))) .nil) .nil)) (zN (zN (zY (Kk a) (zU (KR a)) .nil) .nil) (zN (zN (zY (yo a) .nil (zU (L3 a))) .nil) (zN (zP (zU (Mn a))) .nil))))) (zN (zN (zN (zP (zP (zP (zU (MK a))))) (zP (zY (Kz a) (zP (zU (Mg a))) (zN (zU (LA a)) .nil)))) (zN (zP (zN (zP (zU (Mc a))) .nil)) (zN (zP (zN (zU (Ll a)) .nil)) (zN (zN (zU (K3 a)) (zU (Mk a))) (zN (zU (LG a)) .nil))))) (zN (zY (QY a) (zP (zP (zN (zU (Ls a)) .nil))) (zN (zP (zN (zU (Li a)) .nil)) (zN (zN (zU (K0 a)) (zU (Mj a))) (zN (zU (LB a)) .nil)))) (zN (zN (zP (zP (zU (Mx a)))) (zP (zN (zU (Lx a)) .nil))) (zN (zP (zP (zU (MH a)))) .nil))))) (zN (zN (zN (zN (zN (zP (zN (zU (K7 a)) (zU (Mp a)))) (zY (Kq a) (zP (zU (L6 a))) (zN (zU (Lp a)) .nil))) (zN (zP (zP (zU (My a)))) .nil)) (zN (zN (zU (Kh a)) (zN (zP (zU (Ma a))) (zN (zU (Lu a)) .nil))) (zN (zN (zP (zU (L1 a))) .nil) (zU (KC a))))) (zN (zN (zN (zP (zN (zU (La a)) .nil)) (zN (zP (zU (L9 a))) (zN (zU (Lq a)) (zU (ML a))))) (zN (zP (zP (zU (MB a)))) .nil)) (zN (zP (zN (zP (zU (Md a))) .nil)) (zN (zY (Kn a) .nil (zN (zU (FM a)) .nil)) (zY (KG a) (zN (zU (K4 a)) .nil) .nil))))) (zN (zN (zN (zN (zN (zP (zU (LM a))) .nil) .nil) (zN (zP (zN (zU (Lh a)) .nil)) .nil)) (zN (zN (zN (zY (KQ a) .nil (zU (LR a))) (zY (KY a) .nil (zU (Mu a)))) (zU (Kv a))) (zN (zP (zP (zU (MG a)))) (zN (zP (zU (Mm a))) .nil)))) (zN (zN (zN (zN (zY (KN a) .nil (zU (LN a))) (zU (FL a))) .nil) (zN (zN (zU (KU a)) .nil) (zP (zN (zU (LF a)) .nil)))) (zN (zN (zU (Kl a)) (zU (Ky a))) (zP (zP (zN (zU (LJ a)) .nil)))))))) (zY (Qk a) (zY (T2 a) (zN (zN (zN (zN (zN (zU (KI a)) (zN (zU (K6 a)) (zU (Mo a)))) (zY (Kp a) (zP (zU (L5 a))) (zN (zU (Lo a)) .nil))) (zN (zN (zP (zU (LW a))) (zN (zU (Lf a)) .nil)) .nil)) (zN (zN (zP (zN (zU (Lc a)) .nil)) .nil) (zN (zN (zP (zU (L0 a))) (zP (zU (ME a)))) .nil))) (zN (zN (zN (zP (zN (zU (K9 a)) (zU (Mr a)))) (zY (Ks a) (zP (zU (L8 a))) .nil)) (zN (zP (zP (zU (MA a)))) .nil)) (zP (zN (zN (zP (zU (L4 a))) .nil) (zY (KD a) (zP (zU (u7 a))) .nil))))) (zN (zN (zN (zN (zN (zP (zU (LL a))) .nil) .nil) (zN (zP (zN (zU (Lg a)) .nil)) (zY (KA a) (zP (zU (Mh a))) .nil))) (zN (zN (zN (zU (KP a)) (zY (KX a) (zU (Ld a)) .nil)) .nil) (zN (zP (zP (zU (MF a)))) (zN (zP (zU (Ml a))) (zN (zU (LH a)) .nil))))) (zN (zY (Kg a) .nil (zN (zN (zU (KS a)) (zN (zU (Lj a)) .nil)) (zN (zN (zU (K1 a)) .nil) (zN (zU (LD a)) .nil)))) (zN (zP (zY (Kx a) .nil (zN (zU (Ly a)) .nil))) (zN (zP (zP (zU (MI a)))) (zP (zN (zU (LI a)) .nil))))))) (zN (zN (zN (zN (zN (zP (zN (zU (K8 a)) .nil)) (zN (zP (zU (L7 a))) (zP (zU (MJ a))))) (zN (zP (zP (zU (Mz a)))) (zN (zP (zU (Mf a))) (zN (zU (Lz a)) .nil)))) (zN (zN (zU (Ki a)) (zN (zP (zU (Mb a))) (zN (zU (Lv a)) .nil))) (zN (zP (zN (zU (Lk a)) .nil)) (zY (FK a) (zN (zU (K2 a)) .nil) .nil)))) (zN (zN (zP (zP (zN (zU (Lr a)) (zU (MN a))))) (zP (zN (zN (zU (KZ a)) (zU (Mi a))) .nil))) (zN (zN (zP (zP (zU (Mw a)))) (zN (zP (zU (Me a))) (zN (zU (Lw a)) .nil))) (zN (zY (Ko a) .nil (zN (zU (Ln a)) .nil)) (zN (zN (zU (K5 a)) .nil) .nil))))) (zN (zN (zN (zN (zN (zU (KJ a)) .nil) .nil) (zN (zN (zP (zU (LX a))) .nil) .nil)) (zN (zN (zY (Kj a) (zP (zU (LS a))) (zP (zU (Mv a)))) (zU (Kw a))) (zN (zN (zU (yn a)) .nil) .nil))) (zY (Ce a) (zN (zN (zN (zY (KO a) .nil (zU (LO a))) (zY (KW a) .nil (zU (Ms a)))) (zY (Kt a) .nil (zP (zU (FN a))))) .nil) (zN (zN (zY (Km a) (zP (zU (LU a))) .nil) .nil) (zP (zP (zN (zU (LK a)) .nil)))))))))
def MQ:uh:=[0,3,31,255,799,671,783,655,911,207,975,815,943,263,903,199,807,151,279,311,823,887,963,227,867,739,851,691,627,883,755,43,715,683,619,875,747,923,731,955,641,897,193,833,705,929,145,849,721,817,241,649,841,713,969,937,857,185,697,249,633,773,677,277,789,405,917,213,949,885,269,781,397,301,749,157,221,765,2,4,256,640,896,192,832,704,800,672,656,816,944,648,904,200,840,936,824,248,888,772,676,228,868,276,404,660,948,884,756,44,300,684,620,748,220,732,956,764,642,834,962,930,866,738,146,850,722,690,242,626,714,970,618,874,922,858,730,186,698,634,262,806,150,790,918,214,310,30,270,782,398,910,206,974,158,798,766]
section
structure cK where
 addr:Nat
 obj:gi
 fr:Bool
def ea(a:gi)(b:WD (WA Wz)):gi:=⟨a.cls,a.dict,a.data,b⟩
def ew(a:gi):Bool:=match a.data with
 | .fields _=>false
 |_=>true
abbrev dh:=WD UInt8×WD UInt8
structure jz where
 xs:ug
 rows:Wy dh
def hQ(a:gi):WA dh:=match a.data with
 | .seq e _=>match a.cls,a.dict with
  | .type c,none=>match PySem.W.S.strDecS c "tuple" with
   | .isTrue _=>match e.toList with
    |[.bytes b _,.bytes d _]=>some (b,d)
    |_=>none
   | .isFalse _=>none
  |_,_=>none
 |_=>none
def oC(a:gi):Bool:=match hQ a with
 |some _=>true
 |none=>false
def yp(a:dh)(d e b:Nat)(c:WD (WA Wz)):gi:=⟨.type "tuple",none,.seq #[.bytes a.1 d,.bytes a.2 e] b,c⟩
inductive f8 where
 |cells (js:uh)
 |UO (j:Nat)
 |app (a b:f8)
inductive g8 where
 |n (a b:Nat)
 |bu (a b:jz)
 |st (f:Nat->Nat)
 |c (a b:Code)
 |o (a b:gi)
 |g (a b:WI)
 |f (a b:Wy WM)
 |v (a b:Wz)
def g8.ok:g8->Prop
 | .n a b=>a=b
 | .bu a b=>a=b
 | .st _=>True
 | .c a b=>a=b
 | .o a b=>a=b
 | .g a b=>a=b
 | .f a b=>a=b
 | .v a b=>a=b
def g8.lf:g8->g8
 | .n a _=>.n a a
 | .bu a _=>.bu a a
 | .st b=>.st b
 | .c a _=>.c a a
 | .o a _=>.o a a
 | .g a _=>.g a a
 | .f a _=>.f a a
 | .v a _=>.v a a
theorem g8.Wi{a:g8}(b:a.lf=a):a.ok:=by cases a<;>first|trivial|(simp only[g8.lf,g8.n.injEq,g8.bu.injEq,g8.c.injEq,g8.o.injEq,g8.g.injEq,g8.f.injEq,g8.v.injEq,true_and]at b;exact b)
abbrev AL:=Nat->Nat
abbrev SL:=Nat->WD (WA Wz)
variable {a:Type}
abbrev nn{b c:Type}:a->b->Wy c:=λ_ _=>[]
structure mw where
 pre:Wy cK
 UR:Wy (Nat×WI)
 post:AL->SL->uk
 UQ:AL->SL->Wy WI
 new:AL->SL->Wy cK
 UW:AL->SL->Wy (Nat×WI)
 UX:Wy jz
 US:AL->SL->Wy jz
structure Spec where
 code:Code
 dep:Nat
 top:WA Nat
 UM:mw
 res:AL->SL->WH
structure Seg where
 code:Code
 start:WA (Sem PySem.Fin)
 fs:Wy WM
 (fr dep:Nat)
 UM:mw
 res:AL->SL->End
structure yq where
 spec:Code->uk->Wy AL->Spec
 (pos Ve:uh)
 src:Wy f8
structure mQ where
 seg:Code->uk->Wy AL->Seg
 (pos Ve:uh)
 src:Wy f8
structure St where
 led:Wy cK
 gl:Wy (Nat×WI)
 al:AL
 sl:SL
 UT:uh
 use:Wy yq
 UN:Wy mQ
 bl:Wy jz
 lg:Wy g8
def St.w(a:St)(b:AL)(c:SL):St:=⟨a.led,a.gl,b,c,a.UT,a.use,a.UN,a.bl,a.lg⟩
def cy(b:Nat->a):Nat->a:=λc=>b (Nat.succ c)
def cons(b:a)(c:Nat->a):Nat->a
 |0=>b
 |n+1=>c n
def dI(b:Nat->a):Nat->a:=λc=>b (Nat.mul 2 c)
def odd(b:Nat->a):Nat->a:=λc=>b (Nat.succ (Nat.mul 2 c))
def mR(c d:Nat->a):Nat->a:=λb=>if b % 2=0 then c (b/2)else d (b/2)
theorem ln(c d:Nat->a):dI (mR c d)=c:=by funext b;show(if 2*b % 2=0 then c (2*b/2)else d (2*b/2))=c b;rw[if_pos (by omega),show 2*b/2=b by omega]
theorem lr(d c:Nat->a):odd (mR d c)=c:=by funext b;show(if(2*b+1) % 2=0 then d ((2*b+1)/2)else c ((2*b+1)/2))=c b;rw[if_neg (by omega),show(2*b+1)/2=b by omega]
structure wL where
 v:Wz
 n:Str
 (x c:Expr)
 (hp rp:Pos)
 env:Env
def Qm:Code->WA wL
 | .handlers f [.ExceptHandler none (some d) [.Raise (some g) (some a) e] c] b=>some ⟨f,d,g,a,c,e,b⟩
 |_=>none
section
variable (I:Monad Sem) (sf:Wz->WA Addr->Sem Unit) (bn:Env->Str->Wz->Sem Unit) (ub:Env->Str->Pos->Sem Unit) (hold:∀{α:Type},ui->Sem α->Sem α) (ev:Expr->Env->Sem Wz) (ef:Wz->String->Sem Wz) (st:Wz->Nat->Wz->Sem Unit) (gt:Wz->Nat->Sem Wz) (ty:Wz->Sem Bool) (rf:Wz->Wz->Sem Wz) (ri:Wz->Sem Wz) (rv:Code->Sem Wz) (uf:Addr->Nat->Wz->Sem Unit) (un:String) (onr:∀{α:Type},Sem α->(Wz->Sem Unit)->Sem α)
def GY(e c:Sem Wz):Sem Wz:=letI:=I;do
 let b <-e
 let d <-hold [b] c
 let a <-hold [d] (ef b "exceptions must derive from BaseException")
 let c <-(match d with
  | .none=>pure .none
  |_=>hold [a] (ef d "exception causes must derive from BaseException"))
 st a 3 c
 st a 4 (.bool true)
 let a <-(do if <-ty b then hold [a] (rf b a)else ri a)
 sf a none
 pure a
def Cf(a:wL):Sem Unit:=letI:=I;do
 standAt a.hp
 sf a.v none
 bn a.env a.n a.v
def Cg(a:wL):Sem Wz:=letI:=I;do
 standAt a.rp
 GY I sf hold ef st ty rf ri (do let b <-ev a.x a.env;standAt a.rp;pure b) (do let b <-ev a.c a.env;standAt a.rp;pure b)
def GZ(a b:Wz):Sem Unit:=letI:=I;match a with
 | .ref c=>do
  let _ <-hold [a] (rv (.builtin un ⟨[a,b,b,.bool false],[]⟩))
  uf c 2 b
 |_=>pure ()
def Ci(a:wL)(b:Wz):Sem Unit:=letI:=I;do
 hold [b] (onr (do
  bn a.env a.n .none
  ub a.env a.n a.hp) λ_=>sf b none)
 match <-gt b 1 with
  | .none=>unsupported "try.except-as:exception-without-traceback"
  |_=>sf b a.env.frame
end
def Sz(a c:Sem Wz):Sem Wz:=GY Sem.instMonad setFlight holding excFromValue setField isType raisedFor raisedInstance a c
def MR(a:wL):Sem Unit:=Cf Sem.instMonad setFlight bindName a
def MS(a:wL):Sem Wz:=Cg Sem.instMonad setFlight holding eval excFromValue setField isType raisedFor raisedInstance a
def MT(a b:Wz):Sem Unit:=GZ Sem.instMonad holding runValue updateField "proto.unchain" a b
def MU(b:wL)(a:Wz):Sem Unit:=Ci Sem.instMonad setFlight bindName unbindBehindTheSuite holding field Sem.onRaise b a
structure gj where
 den:Code->Sem PySem.Fin
 bind:FuncData->Args->Sem (Wy (Str×Wz))
 env:Scope->Addr->Wy (Str×Addr)->Wy (Str×Wz)->Str->WA Addr->Wz->Addr->Sem Env
 ex:Wy Stmt->Env->Sem Flow
 ev:Expr->Env->Sem Wz
 VX:Wz->WA Addr->Sem Unit
 (hand Wg:Wz->Env->Wy ExceptHandler->Sem Flow)
 Wa:Expr->Wy Stmt->Wy Stmt->Env->Sem PySem.Fin
 Wt:Expr->Wz->Wy Stmt->Wy Stmt->Env->Sem PySem.Fin
 Wh:Expr->Nat->Wz->Wz->Env->Sem PySem.Fin
 name:Env->Str->Sem Wz
 VH:Wz->Sem Bool
 Vl:Wz->ui->Sem Wz
 Vx:Expr->Str->Pos->Pos->Env->Wz->Sem Wz
 kind:Env->Str->WA NameKind
 inter:Env->Bool
 ry:wL->Sem Unit
 rz:wL->Sem Wz
 ru:Wz->Wz->Sem Unit
 rq:wL->Wz->Sem Unit
def gj.own:gj:=⟨denote table,bindArgs,λn h f c m a e d=>newFunctionEnv n h f c m a e none d,execs,eval,setFlight,handleBy,handleWith,whileTurn,forTurn,compTurn,loadName,isType,λa i=>call a i,λk j b l g o=>methodCall k j b l g o 0 [] [],Env.kindOf,interactive,MR,MS,MT,MU⟩
structure Cx where
 hd:WA Wz
 top:WA Nat
structure IH(R:Type) where
 t:∀{α:Type},Nat->Cx->Sem α->St->(Except Wz α->St->WA R)->WA R
 c:Nat->Cx->Code->St->(WH->St->WA R)->WA R
 b:Nat->Cx->Wy Stmt->Env->St->(Except Wz Flow->St->WA R)->WA R
 s:Nat->Code->Pos->Sem PySem.Fin->Wy WM->Nat->St->(End->St->WA R)->WA R
def cellAt(b:Wy cK)(a:Nat):WA cK:=b[a]?
def s7(a:Nat):uh->Bool
 |[]=>false
 |q::b=>match Nat.beq a q with
  |true=>true
  |false=>s7 a b
def kA(a:gi):gi:=ea a #[]
def collect:uh->Wy cK->Wy cK->WA (Wy g8)
 |[],[],_=>some []
 |f::e,b::g,d=>match cellAt d f with
  |some a=>match a.fr,b.fr,s7 f e with
   |_,_,true=>none
   |true,true,false=>match collect e g d with
    |some c=>some (.n a.addr b.addr:: .o (kA a.obj) (kA b.obj)::c)
    |none=>none
   |false,false,false=>match collect e g d with
    |some c=>some (.n a.addr b.addr:: .o a.obj b.obj::c)
    |none=>none
   |_,_,_=>none
  |none=>none
 |_,_,_=>none
def dR:uh->Wy (Nat×WI)->Wy (Nat×WI)->WA (Wy g8)
 |[],[],_=>some []
 |c::d,e::g,b=>match b[c]? with
  |some a=>match s7 c d with
   |true=>none
   |false=>match dR d g b with
    |some f=>some (.n a.1 e.1:: .g a.2 e.2::f)
    |none=>none
  |none=>none
 |_,_,_=>none
def kB:uh->Wy cK->WA (ui×Wy dh)
 |[],_=>some ([],[])
 |d::e,b=>match cellAt b d with
  |some a=>match a.fr,hQ a.obj,kB e b with
   |false,some f,some c=>some (.ref a.addr::c.1,f::c.2)
   |_,_,_=>none
  |none=>none
def j5(b:Wy cK)(a:Wy jz):f8->WA jz
 | .cells i=>match kB i b with
  |some c=>some ⟨⟨c.1⟩,c.2⟩
  |none=>none
 | .UO h=>a[h]?
 | .app f g=>match j5 b a f,j5 b a g with
  |some d,some e=>some ⟨d.xs++e.xs,d.rows++e.rows⟩
  |_,_=>none
def fH(b:Wy cK)(a:Wy jz):Wy f8->Wy jz->WA (Wy g8)
 |[],[]=>some []
 |s::e,B::c=>match j5 b a s,fH b a e c with
  |some f,some d=>some (.bu f B::d)
  |_,_=>none
 |_,_=>none
def pv:uh->Wy cK->uk
 |[],_=>[]
 |d::b,a=>match cellAt a d with
  |some c=>c.obj::pv b a
  |none=>pv b a
def lW:Code->ui
 | .builtin _ a=>a.pos
 | .call _ a=>a.pos
 |_=>[]
def T3(c:Code):gi:=⟨.none,none,.fields (lW c).toArray,#[]⟩
def pw:Wy g8->uk
 |[]=>[]
 | .c b _::a=>T3 b::pw a
 |_::a=>pw a
def mx:Wy g8->Wy AL
 |[]=>[]
 | .st b::a=>b::mx a
 |_::a=>mx a
def yq.at(b:yq)(c:Code)(d:Wy cK)(a:Wy g8):Spec:=b.spec c (pv b.pos d++pw a) (mx a)
def mQ.at(b:mQ)(c:Code)(d:Wy cK)(a:Wy g8):Seg:=b.seg c (pv b.pos d++pw a) (mx a)
def da:Wy cK->Nat->gi->Wy cK
 |[],_,_=>[]
 |c::a,0,b=>⟨c.addr,b,c.fr⟩::a
 |c::a,d+1,b=>c::da a d b
def ec:uh->uk->Wy cK->Wy cK
 |c::d,b::os,a=>ec d os (da a c b)
 |_,_,a=>a
def il:Wy (Nat×WI)->Nat->WI->Wy (Nat×WI)
 |[],_,_=>[]
 |c::a,0,b=>(c.1,b)::a
 |c::a,d+1,b=>c::il a d b
def dU:uh->Wy WI->Wy (Nat×WI)->Wy (Nat×WI)
 |c::d,b::os,a=>dU d os (il a c b)
 |_,_,a=>a
def g9:ScopeKind->Bool
 | .module=>false
 |_=>true
def okMark(a:WA Wz):Bool:=match a with
 |none=>true
 |some (.ref _)=>true
 |some _=>false
def gp:Code->Bool
 | .func .. =>false
 | .expr .. =>false
 | .body .. =>false
 | .builtin id _=>match PySem.W.S.strDecS id "claim.caller",PySem.W.S.strDecS id "proto.\x69mport.load",PySem.W.S.strDecS id "proto.\x69mport.exec" with
  | .isFalse _,.isFalse _,.isFalse _=>true
  |_,_,_=>false
 | .compStart (.GeneratorExp ..) .. =>false
 | .compLoop (.GeneratorExp ..) .. =>false
 |_=>true
def restOf(a:WD (WA Wz)):ui:=a.toList.map λb=>b.getD .none
def yr(b:Wz)(a:Addr)(c:ui):gi:=⟨.type "traceback",none,.fields (b:: .ref a:: .none::rawInt a:: .none::c).toArray,#[]⟩
def hR(a:Nat)(c:Wz)(b:gi):gi:=Obj.mapFields (·.setIfInBounds a c) b
section
variable {R:Type} (K:Nat->WA gi) (X:gj) (G:Setting)
def gy(E:mw)(c b:uh)(i:Wy f8)(a:St)(h:uh)(k:Wy yq)(j:Wy mQ)(g:Wy g8):WA St:=match collect c E.pre a.led,dR b E.UR a.gl,fH a.led a.bl i E.UX with
 |some d,some f,some e=>some ⟨E.new (dI a.al) (dI a.sl)++ec c (E.post (dI a.al) (dI a.sl)) a.led,E.UW (dI a.al) (dI a.sl)++dU b (E.UQ (dI a.al) (dI a.sl)) a.gl,odd a.al,odd a.sl,h,k,j,E.US (dI a.al) (dI a.sl)++a.bl,g++(d++(f++(e++(.st (dI a.al)::a.lg))))⟩
 |_,_,_=>none
def yt(a b:WA Nat):WA (Wy g8):=match a,b with
 |none,_=>some []
 |some c,some d=>some [.n d c]
 |some _,none=>none
def f9(d:Nat)(b:Cx)(c:Code)(a:St)(e:uh)(i:WH->St->WA R):WA R:=match b.hd with
 |some _=>none
 |none=>match a.use with
  |[]=>none
  |u::h=>match Nat.ble (u.at c a.led a.lg).dep d,yt (u.at c a.led a.lg).top b.top with
   |true,some g=>match gy (u.at c a.led a.lg).UM u.pos u.Ve u.src a e h a.UN (.c c (u.at c a.led a.lg).code::g)with
    |some f=>i ((u.at c a.led a.lg).res (dI a.al) (dI a.sl)) f
    |none=>none
   |_,_=>none
def jA:Code->Bool
 | .block .. =>true
 |_=>false
def qK(b:Nat)(a:Cx)(c:Code)(e:St)(d:uh)(f:WH->St->WA R):WA R:=match jA c with
 |true=>none
 |false=>f9 b a c e d f
def qL(d:Nat)(a:Cx)(e:Wy Stmt)(b:Env)(f:St)(c:uh)(g:WH->St->WA R):WA R:=match d with
 |0=>none
 |d+1=>f9 d a (.block e b) f c g
def iP(d:Nat)(c:Code)(e:Wy WM)(b:Nat)(a:St)(g:uh)(j:End->St->WA R):WA R:=match a.UN with
 |[]=>none
 |u::i=>match Nat.ble (u.at c a.led a.lg).dep d,(u.at c a.led a.lg).start with
  |true,none=>match gy (u.at c a.led a.lg).UM u.pos u.Ve u.src a g a.use i [.c c (u.at c a.led a.lg).code,.f e (u.at c a.led a.lg).fs,.n b (u.at c a.led a.lg).fr]with
   |some h=>j ((u.at c a.led a.lg).res (dI a.al) (dI a.sl)) h
   |none=>none
  |_,_=>none
variable {a:Type}
def stepT(j:IH R)(d:Nat)(g:Cx)(v:Sem a)(c:St)(i:Except Wz a->St->WA R):WA R:=match v with
 | .pure k=>i (.ok k) c
 | .raise t=>i (.error t) c
 | .rule _ e=>j.t d g (e ()) c i
 | .at _ e=>j.t d g (e ()) c i
 | .point _ e=>j.t d g (e ()) c i
 | .ask e=>j.t d g (e G) c i
 | .fresh e=>j.t d g (e (c.al 0)) ⟨c.led,c.gl,cy c.al,c.sl,c.UT,c.use,c.UN,c.bl,c.lg⟩ i
 | .handled false e=>j.t d g (e g.hd) c i
 | .load k _ e=>match c.UT with
  |[]=>none
  |0::h=>match K k with
   |some o=>j.t d g (e o) {c with UT:=h} i
   |none=>none
  |(l+1)::h=>match cellAt c.led l with
   |none=>match h with
    |b::h=>match c.bl[b]? with
     |some B=>match B.xs.toList,B.rows with
      |[.ref s],[p]=>j.t d g (e (yp p (c.al 0) (c.al 1) (c.al 2) (c.sl 0))) ⟨c.led,c.gl,cy (cy (cy c.al)),cy c.sl,h,c.use,c.UN,c.bl,.n s k::c.lg⟩ i
      |_,_=>none
     |none=>none
    |[]=>none
   |some f=>match f.fr with
    |true=>j.t d g (e (ea f.obj (c.sl 0))) ⟨c.led,c.gl,c.al,cy c.sl,h,c.use,c.UN,c.bl,.n f.addr k::c.lg⟩ i
    |false=>j.t d g (e f.obj) ⟨c.led,c.gl,c.al,c.sl,h,c.use,c.UN,c.bl,.n f.addr k::c.lg⟩ i
 | .loadIfAlive k e=>match c.UT with
  |[]=>none
  |0::h=>match K k with
   |some o=>j.t d g (e (some o)) {c with UT:=h} i
   |none=>none
  |(l+1)::h=>match cellAt c.led l with
   |none=>none
   |some f=>match f.fr with
    |true=>none
    |false=>j.t d g (e (some f.obj)) ⟨c.led,c.gl,c.al,c.sl,h,c.use,c.UN,c.bl,.n f.addr k::c.lg⟩ i
 | .update k _ m e=>match c.UT with
  |(l+1)::h=>match cellAt c.led l with
   |none=>none
   |some f=>match f.fr with
    |true=>match(m (ea f.obj (c.sl 0))).isFreed,ew f.obj,ew (m (ea f.obj (c.sl 0))),oC f.obj with
     |false,true,true,false=>j.t d g (e ()) ⟨da c.led l (m (ea f.obj (c.sl 0))),c.gl,c.al,cy c.sl,h,c.use,c.UN,c.bl,.n f.addr k::c.lg⟩ i
     |_,_,_,_=>none
    |false=>match(m f.obj).isFreed,ew f.obj,ew (m f.obj),oC f.obj with
     |false,false,_,false=>j.t d g (e ()) ⟨da c.led l (m f.obj),c.gl,c.al,c.sl,h,c.use,c.UN,c.bl,.n f.addr k::c.lg⟩ i
     |false,true,true,false=>j.t d g (e ()) ⟨da c.led l (m f.obj),c.gl,c.al,c.sl,h,c.use,c.UN,c.bl,.n f.addr k::c.lg⟩ i
     |_,_,_,_=>none
  |_=>none
 | .alloc o e=>match o.isFreed with
  |true=>none
  |false=>match c.UT with
   |0::h=>j.t d g (e (c.al 0)) ⟨⟨c.al 0,o,false⟩::c.led,c.gl,cy c.al,c.sl,h,c.use,c.UN,c.bl,c.lg⟩ i
   |1::h=>j.t d g (e (c.al 0)) ⟨⟨c.al 0,o,true⟩::c.led,c.gl,cy c.al,c.sl,h,c.use,c.UN,c.bl,c.lg⟩ i
   |_=>none
 | .newGen f e=>j.t d g (e (c.al 0)) ⟨c.led,(c.al 0,.fresh f)::c.gl,cy c.al,c.sl,c.UT,c.use,c.UN,c.bl,c.lg⟩ i
 | .call f q _ _ e=>match d with
  |0=>none
  |d+1=>match okMark q with
   |false=>none
   |true=>match c.UT with
    |0::h=>j.c d ⟨q.or g.hd,g.top⟩ f {c with UT:=h} λp r=>j.t (d+1) g (e p) r i
    |1::h=>match q with
     |some _=>none
     |none=>qK d g f c h λp r=>j.t (d+1) g (e p) r i
    |_=>none
 |_=>none
def fg(f:Nat)(o:Wz)(a:St)(j:St->WA R):WA R:=match o,a.UT with
 | .ref h,e::d=>match cellAt a.led e with
  |some b=>match b.fr,b.obj.data with
   |false,.fields m=>match(m[1]?:WA Wz)with
    |some .none=>j ⟨⟨a.al 0,yr .none f (restOf (a.sl 0)),false⟩::da a.led e (hR 1 (.ref (a.al 0)) b.obj),a.gl,cy a.al,cy a.sl,d,a.use,a.UN,a.bl,.n b.addr h::a.lg⟩
    |some (.ref g)=>match d with
     |i::d=>match cellAt a.led i with
      |some c=>match c.fr,c.obj.data with
       |false,.fields k=>match(k[3]?:WA Wz)with
        |some .none=>match Nat.beq e i with
         |true=>none
         |false=>j ⟨⟨a.al 0,yr (.ref g) f (restOf (a.sl 0)),false⟩::da (da a.led i (hR 3 .none c.obj)) e (hR 1 (.ref (a.al 0)) b.obj),a.gl,cy a.al,cy a.sl,d,a.use,a.UN,a.bl,.n b.addr h:: .n c.addr g::a.lg⟩
        |some l=>j ⟨a.led,a.gl,a.al,a.sl,d,a.use,a.UN,a.bl,.n b.addr h:: .n c.addr g:: .v l (rawInt f)::a.lg⟩
        |none=>none
       |_,_=>none
      |none=>none
     |[]=>none
    |_=>none
   |_,_=>none
  |none=>none
 |_,_=>none
def hS(e:IH R)(d:Nat)(c:Cx)(b:Nat)(a:Wz)(g:St)(j:St->WA R):WA R:=
 fg b a g λh=>e.t d c (X.VX a none) h λf i=>match f with
  | .ok _=>j i
  | .error _=>none
def fI(g:IH R)(e:Nat)(d:Cx)(p:Wy Stmt)(f:Env)(a:St)(c:Except Wz Flow->St->WA R):WA R:=match a.UT with
 |0::i=>g.t e d (X.ex p f) {a with UT:=i} c
 |1::i=>match p with
  |s::o=>g.t e d (X.ex [s] f) {a with UT:=i} λj k=>match j with
   | .ok .next=>g.b e d o f k c
   | .ok h=>c (.ok h) k
   | .error l=>c (.error l) k
  |[]=>none
 |2::i=>match p,d.top,f.frame with
  | .Try x (y::z) A [] _::o,some r,some w=>g.b e d x f ⟨a.led,a.gl,a.al,a.sl,i,a.use,a.UN,a.bl,.n r w::a.lg⟩ λj k=>match j with
   | .ok .next=>g.b e d A f k λj m=>match j with
    | .ok .next=>g.b e d o f m c
    | .ok h=>c (.ok h) m
    | .error l=>c (.error l) m
   | .ok h=>c (.ok h) k
   | .error v=>hS X g e d r v k λm=>g.t e d (X.hand v f (y::z)) m λj q=>match j with
    | .ok .next=>g.b e d o f q c
    | .ok h=>c (.ok h) q
    | .error l=>c (.error l) q
  |_,_,_=>none
 |3::i=>qL e d p f a i c
 |_=>none
inductive Bd where
 |st (b:Wy Stmt)
 |ex (e:Expr)
 |gen (b:Wy Stmt)
def u8(a:FuncData):WA Bd:=match a.scope.isCoroutine with
 |true=>none
 |false=>match a.scope.isGenerator with
  |true=>match a.body with
   | .stmts b=>some (.gen b)
   |_=>none
  |false=>match a.body with
   | .stmts b=>some (.st b)
   | .expr c=>some (.ex c)
def hT(d:Nat)(a:St)(e:gi->St->WA R):WA R:=match a.UT with
 |0::c=>match K d with
  |some g=>e g {a with UT:=c}
  |none=>none
 |(f+1)::c=>match cellAt a.led f with
  |some b=>match b.fr with
   |false=>e b.obj ⟨a.led,a.gl,a.al,a.sl,c,a.use,a.UN,a.bl,.n b.addr d::a.lg⟩
   |true=>none
  |none=>none
 |[]=>none
def mS(g:Wz)(d:Str)(e:St)(i:St->WA R):WA R:=match g with
 | .ref a=>hT K a e λc f=>match c.data with
  | .fields h=>match h.toList with
   |_:: .str b _::_=>match PySem.W.Fast.sDec b d with
    | .isTrue _=>i f
    | .isFalse _=>none
   |_=>none
  |_=>none
 |_=>none
structure wM where
 (p0 p1:Pos)
 name:Str
 (apos pos p2:Pos)
def wM.o(a:wM):Expr:= .Call (.Name (Str.ofString "super") a.p0) [] [] a.p1
def Cj(g:Stmt):WA wM:=match g with
 | .Expr (.Call (.Attribute (.Call (.Name id c) [] [] d) b a) [] [] f) e=>match PySem.W.Fast.sDec id (Str.ofString "super")with
  | .isTrue _=>some ⟨c,d,b,a,f,e⟩
  | .isFalse _=>none
 |_=>none
def px{a:Type}(b:Str):Wy (Str×a)->Bool
 |[]=>true
 |x::c=>match PySem.W.Fast.sDec b x.1 with
  | .isTrue _=>false
  | .isFalse _=>px b c
def my(a:Env)(b:Str):Bool:=match X.kind a (Str.ofString "super"),X.kind a (Str.ofString "__class__"),X.inter a,PySem.W.Fast.sDec b (Str.ofString "__class__")with
 |some .globalImplicit,some .free,false,.isFalse _=>true
 |_,_,_,_=>false
def mT(a:Str):Bool:=match PySem.W.Fast.sDec G.program.main.file a with
 | .isTrue _=>px (Str.ofString "super") G.program.main.scope.names
 | .isFalse _=>false
def mz(b:FuncData):WA Str:=match b.params.posonlyargs++b.params.args with
 |a::_=>some a.arg
 |[]=>none
def qM(b:gi):WA Str:=match b.data with
 | .fields c=>match c.toList with
  |_::_:: .str a _::_=>some a
  |_=>none
 |_=>none
def wN(e:IH R)(d:Nat)(c:Cx)(f:wM)(b:Env)(r:St)(D:St->WA R):WA R:=match b.func,b.code,my X b f.name with
 |some k,.ref i,true=>hT K k r λn s=>match n.data with
  | .func l=>match mz l with
   |some h=>hT K i s λj v=>match qM j with
    |some m=>match mT G m with
     |true=>e.t d c (X.name b (Str.ofString "super")) v λa w=>match a with
      | .ok (.type p)=>match PySem.W.S.strDecS p "super" with
       | .isTrue _=>e.t d c (X.name b (Str.ofString "__class__")) w λa x=>match a with
        | .ok g=>e.t d c (X.name b h) x λa y=>match a with
         | .ok self=>e.t d c (X.VH g) y λa z=>match a with
          | .ok true=>e.t d c (X.Vl (.type "super") [g,self]) z λa A=>match a with
           | .ok q=>e.t d c (X.Vx f.o f.name f.apos f.pos b q) A λa C=>match a with
            | .ok _=>D C
            | .error _=>none
           | .error _=>none
          |_=>none
         | .error _=>none
        | .error _=>none
       | .isFalse _=>none
      |_=>none
     |false=>none
    |none=>none
   |none=>none
  |_=>none
 |_,_,_=>none
def kC(e:IH R)(c:Nat)(a:Cx)(g:Wy Stmt)(d:Env)(f:St)(h:Except Wz Flow->St->WA R):WA R:=match f.UT with
 |9::i=>match g with
  |l::s1::k=>match Cj s1 with
   |some o=>e.t c a (X.ex [l] d) {f with UT:=i} λj m=>match j with
    | .ok .next=>wN K X G e c a o d m λn=>e.b c a k d n h
    |_=>none
   |none=>none
  |_=>none
 |_=>e.b c a g d f h
def kD(a:Wz):gi:={cls:= .type "tuple",data:= .seq [a].toArray}
def pz(X:Wz)(a:Nat):gi:={cls:=X,data:= .fields #[.ref a,.none,.none,.none,.bool false,.none]}
def Ck:Code->WA Wz
 | .builtin id ⟨[.ref a,b],[]⟩=>match PySem.W.S.strDecS id "Exception.__new__",Nat.beq a 44 with
  | .isTrue _,true=>some b
  |_,_=>none
 |_=>none
def iQ(c f:Nat)(a:St)(g:St->WA R):WA R:=match a.UT with
 |i::b::os=>match Nat.beq i b,cellAt a.led i,cellAt a.led b with
  |false,some d,some e=>g ⟨a.led,a.gl,a.al,a.sl,os,a.use,a.UN,a.bl,.n d.addr c:: .n e.addr f::a.lg⟩
  |_,_,_=>none
 |_=>none
def pA(X:gj):Code->WA (Env×(Sem PySem.Fin ⊕Sem Flow))
 | .whileLoop e b d a=>some (a,.inl (X.Wa e b d a))
 | .forLoop e c b d a=>some (a,.inl (X.Wt e c b d a))
 | .compLoop (.ListComp f k h i) m c g a=>some (a,.inl (X.Wh (.ListComp f k h i) m c g a))
 | .block b a=>some (a,.inr (X.ex b a))
 | .handlers j l a=>some (a,.inr (X.Wg j a l))
 |_=>none
def ek(j:IH R)(h:Nat)(e:Cx)(c:Code)(a:St)(g:WH->St->WA R):WA R:=match a.UT with
 |0::i=>match c with
  | .call (.ref D) I=>hT K D {a with UT:=i} λM a=>match M.data with
   | .func l=>match u8 l with
    |none=>none
    |some J=>mS K l.code l.qualname a λa=>j.t h e (X.bind l I) a λd k=>match d with
      | .error _=>none
      | .ok L=>j.t h e (X.env l.scope l.globals l.closure L (l.qualname++ ".<locals>.") (some D) l.code l.builtins) k λd b=>match d with
       | .error _=>none
       | .ok p=>match J with
        | .gen A=>g (.ok (.ret (.ref (b.al 3)))) ⟨⟨b.al 3,⟨.type "generator",none,.fields #[.int (b.al 0) 0,.str l.name (b.al 1),.str l.qualname (b.al 2)],#[]⟩,false⟩::b.led,(b.al 0,.fresh (.func A p))::b.gl,cy (cy (cy (cy b.al))),b.sl,b.UT,b.use,b.UN,b.bl,b.lg⟩
        | .st A=>match p.frame,b.UT,g9 p.scope.kind with
         |some f,C::i,true=>match cellAt b.led C with
          |some c=>match ew c.obj,c.fr with
           |true,true=>kC K X G j h ⟨e.hd,some f⟩ A p ⟨b.led,b.gl,b.al,b.sl,i,b.use,b.UN,b.bl,.n c.addr f::b.lg⟩ λd q=>match d with
            | .ok (.ret x)=>g (.ok (.ret x)) q
            | .ok _=>g (.ok (.ret .none)) q
            | .error m=>hS X j h ⟨e.hd,some f⟩ f m q λw=>g (.error m) w
           |_,_=>none
          |none=>none
         |_,_,_=>none
        | .ex o=>match p.frame,b.UT,g9 p.scope.kind with
         |some f,C::i,true=>match cellAt b.led C with
          |some c=>match ew c.obj,c.fr with
           |true,true=>j.t h ⟨e.hd,some f⟩ (X.ev o p) ⟨b.led,b.gl,b.al,b.sl,i,b.use,b.UN,b.bl,.n c.addr f::b.lg⟩ λd q=>match d with
            | .ok x=>g (.ok (.ret x)) q
            | .error m=>hS X j h ⟨e.hd,some f⟩ f m q λw=>g (.error m) w
           |_,_=>none
          |none=>none
         |_,_,_=>none
   |_=>none
  |_=>none
 |1::i=>match gp c with
  |false=>none
  |true=>j.t h e (X.den c) {a with UT:=i} λd k=>match d with
   | .ok (.done s)=>g (.ok s) k
   | .ok (.again r)=>match r.quiet with
    |true=>j.c h e r k g
    |false=>none
   | .error o=>g (.error o) k
 |2::i=>qK h e c a i g
 |3::i=>match gp c,pA X c,e.top with
  |true,some (p,v),some f=>match p.frame with
   |some y=>match v with
    | .inl v=>j.t h e v ⟨a.led,a.gl,a.al,a.sl,i,a.use,a.UN,a.bl,.n f y::a.lg⟩ λd k=>match d with
     | .ok (.done s)=>g (.ok s) k
     | .ok (.again r)=>match r.quiet with
      |true=>j.c h e r k g
      |false=>none
     | .error m=>fg f m k λb=>g (.error m) b
    | .inr v=>j.t h e v ⟨a.led,a.gl,a.al,a.sl,i,a.use,a.UN,a.bl,.n f y::a.lg⟩ λd k=>match d with
     | .ok s=>g (.ok s) k
     | .error m=>fg f m k λb=>g (.error m) b
   |none=>none
  |_,_,_=>none
 |4::i=>match gp c,Qm c,e.hd,e.top with
  |true,some z,some (.ref H),some f=>match z.env.frame with
   |some y=>j.t h e (X.ry z) ⟨a.led,a.gl,a.al,a.sl,i,a.use,a.UN,a.bl,.n f y::a.lg⟩ λd N=>match d with
    | .ok _=>j.t h e (X.rz z) N λd k=>match d with
     | .ok (.ref o)=>iQ o H k λb=>j.t h e (X.ru (.ref o) (.ref H)) b λd q=>match d with
      | .ok _=>fg f (.ref o) q λw=>j.t h e (X.rq z (.ref o)) w λd O=>match d with
       | .ok _=>fg f (.ref o) O λQ=>g (.error (.ref o)) Q
       | .error _=>none
      | .error _=>none
     |_=>none
    | .error _=>none
   |none=>none
  |_,_,_,_=>none
 |5::i=>match Ck c with
  |some x=>g (.ok (.ret (.ref (a.al 1)))) ⟨⟨a.al 1,pz (.ref 44) (a.al 0),false⟩::⟨a.al 0,kD x,false⟩::a.led,a.gl,cy (cy a.al),a.sl,i,a.use,a.UN,a.bl,a.lg⟩
  |none=>none
 |_=>none
def mU(a:Nat):Wy Env->WA (Wy g8)
 |[]=>some []
 |b::e=>match b.frame,g9 b.scope.kind with
  |some c,true=>match mU a e with
   |some d=>some (.n c a::d)
   |none=>none
  |_,_=>none
def fJ:Wy WM->Bool
 |[]=>true
 | .ret _ none false _ _ _ _::a=>fJ a
 |_=>false
def eL(h:IH R)(e:Nat)(c:Code)(i:Pos)(j:Sem PySem.Fin)(b:Wy WM)(d:Nat)(a:St)(k:End->St->WA R):WA R:=
 match fJ b,c.isCaller,Nat.ble (frameCount (b.map Frame.where_)+c.weight) 48,Nat.ble (unitsOf (b.map Frame.where_)+c.cUnits) 80,mU d (c.envs++envsOf (b.map Frame.where_))with
 |true,false,true,true,some (f::g)=>h.s e c i j b d ⟨a.led,a.gl,a.al,a.sl,a.UT,a.use,a.UN,a.bl,(f::g)++a.lg⟩ k
 |_,_,_,_,_=>none
def wO(h:IH R)(g:Nat)(b:WH)(a:Wy WM)(e:Nat)(c:St)(d:End->St->WA R):WA R:=match a with
 |[]=>d (.ret b) c
 | .ret i _ _ _ f j _::a=>eL h g f j (i b) a e c d
 |_=>none
def jR(d:IH R)(b:Nat)(c:Code)(j:Pos)(g:Wy WM)(e:Nat)(i:Sem a)(h:a->Sem PySem.Fin)(l:St)(n:End->St->WA R):WA R:=
 d.t b ⟨none,none⟩ i l λk m=>match k with
  | .ok f=>d.s b c j (h f) g e m n
  | .error _=>none
def ez(h:IH R)(g:Nat)(c:Code)(i:Pos)(w:Sem PySem.Fin)(b:Wy WM)(f:Nat)(d:St)(e:End->St->WA R):WA R:=match w with
 | .pure (.done n)=>wO h g (.ok n) b f d e
 | .raise r=>wO h g (.error r) b f d e
 | .pure (.again j)=>match j.quiet with
  |false=>none
  |true=>match d.UT with
   |0::k=>eL h g j i (X.den j) b f {d with UT:=k} e
   |1::k=>iP g j b f d k e
   |_=>none
 | .yield x false l a=>match splitAtGen b,b.any Frame.guarded with
  |none,false=>e (.susp x false l a c i b) d
  |_,_=>none
 | .at v a=>h.s g c v (a ()) b f d e
 | .rule _ a=>h.s g c i (a ()) b f d e
 | .point _ a=>h.s g c i (a ()) b f d e
 | .ask a=>h.s g c i (a G) b f d e
 | .handled false a=>h.s g c i (a none) b f d e
 | .load m q a=>jR h g c i b f (.load m q .pure) a d e
 | .loadIfAlive m a=>jR h g c i b f (.loadIfAlive m .pure) a d e
 | .update m q n a=>jR h g c i b f (.update m q n .pure) a d e
 | .alloc t a=>jR h g c i b f (.alloc t .pure) a d e
 | .fresh a=>jR h g c i b f (.fresh .pure) a d e
 | .call j p o l a=>match d.UT with
  |2::k=>match p,o,l,j.quiet with
   |none,false,l,_=>eL h g j i (X.den j) (.ret a none false l c i []::b) f {d with UT:=k} e
   |_,_,_,_=>none
  |3::k=>match p,o with
   |none,false=>iP g j (.ret a none false l c i []::b) f {d with UT:=k} k e
   |_,_=>none
  |_=>jR h g c i b f (.call j p o l .pure) a d e
 |_=>none
def iter:Nat->IH R
 |0=>⟨λ_ _ _ _ _=>none,λ_ _ _ _ _=>none,λ_ _ _ _ _ _=>none,λ_ _ _ _ _ _ _ _=>none⟩
 |n+1=>⟨λa d f b c=>stepT K G (iter n) a d f b c,λa d e b c=>ek K X G (iter n) a d e b c,λa d k h b c=>fI X (iter n) a d k h b c,λa e j f i g b c=>ez X G (iter n) a e j f i g b c⟩
end
end
variable {W:uh} {f:Nat} {N O:St} {v:Wz}
section
abbrev TU:=Code->uk->Wy AL->Spec
abbrev TG:=Code->uk->Wy AL->Seg
abbrev ul(b:Nat)(a:ui):Code:= .call (.ref b) ⟨a,[]⟩
abbrev um(b:String)(a:ui):Code:= .builtin b ⟨a,[]⟩
abbrev uj(a:Wz):WH:= .ok (.ret a)
def cw(a b:St):Prop:=∀c∈a.lg,c∈b.lg
theorem cw.trans{c:St}(d:cw N O)(e:cw O c):cw N c:=λa b=>e a (d a b)
theorem cw.r(a:O.lg=N.lg):cw N O:=λc b=>by rw[a];exact b
theorem cw.k{l:Wy g8}(a:O.lg=l++N.lg):cw N O:=λc b=>by rw[a];exact uc _ b
def i0(a:St):Prop:=∀b∈a.lg,b.ok
theorem i0.sub(c:cw N O)(d:i0 O):i0 N:=λa b=>d a (c a b)
section
variable {R0:Type} {K:Nat->WA gi} {X:gj} {G:Setting}
def dj{a:Type}(e:a->St->WA (R0×St)):Prop:=∀d b c,e d b=some c->cw b c.2
def fK(c:St->WA (R0×St)):Prop:=∀a b,c a=some b->cw a b.2
structure gI(ih:IH (R0×St)):Prop where
 t:∀{α:Type} {d:Nat} {cx:Cx} {t:Sem α} {st:St} {κ:Except Wz α->St->WA (R0×St)},dj κ->∀{x},ih.t d cx t st κ=some x->cw st x.2
 c:∀{d:Nat} {cx:Cx} {c:Code} {st:St} {κ:WH->St->WA (R0×St)},dj κ->∀{x},ih.c d cx c st κ=some x->cw st x.2
 b:∀{d:Nat} {cx:Cx} {ss:Wy Stmt} {env:Env} {st:St} {κ:Except Wz Flow->St->WA (R0×St)},dj κ->∀{x},ih.b d cx ss env st κ=some x->cw st x.2
 s:∀{d:Nat} {c:Code} {p:Pos} {t:Sem PySem.Fin} {fs:Wy WM} {L:Nat} {st:St} {κ:End->St->WA (R0×St)},dj κ->∀{x},ih.s d c p t fs L st κ=some x->cw st x.2
theorem mV{E:mw}{c a:uh}{d:Wy f8}{e:Wy yq}{h:Wy mQ}{b:Wy g8}(f:gy E c a d N W e h b=some O):cw N O:=by
 unfold gy at f;split at f
 ·cases f;exact λi g=>uc _ (uc _ (uc _ (uc _ (.tail _ g))))
 ·cases f
variable {d:R0×St} {c:Code} {g:Cx}
theorem gf{a:WH->St->WA (R0×St)}(h:dj a)(b:f9 f g c N W a=some d):cw N d.2:=by
 unfold f9 at b;split at b
 ·cases b
 ·split at b
  ·cases b
  ·split at b
   ·split at b
    ·rename_i e;exact(mV e).trans (h _ _ _ b)
    ·cases b
   ·cases b
theorem qN{a:WH->St->WA (R0×St)}(e:dj a)(b:qK f g c N W a=some d):cw N d.2:=by
 unfold qK at b;split at b
 ·cases b
 ·exact gf e b
variable {h:Wy Stmt}
theorem wP{c:Env}{a:WH->St->WA (R0×St)}(e:dj a)(b:qL f g h c N W a=some d):cw N d.2:=by
 unfold qL at b;split at b
 ·cases b
 ·exact gf e b
variable {a:End->St->WA (R0×St)} {b:Wy WM}
theorem oD{h:Nat}(i:dj a)(e:iP f c b h N W a=some d):cw N d.2:=by
 unfold iP at e;split at e
 ·cases e
 ·split at e
  ·split at e
   ·rename_i g;exact(mV g).trans (i _ _ _ e)
   ·cases e
  ·cases e
theorem fL{h:Nat}{a:St->WA (R0×St)}(c:fK a)(b:fg h v N a=some d):cw N d.2:=by
 unfold fg at b;split at b
 ·split at b
  ·split at b
   ·split at b
    ·exact cw.trans (.k (l:=[_]) rfl) (c _ _ b)
    ·split at b
     ·split at b
      ·split at b
       ·split at b
        ·split at b
         ·cases b
         ·exact cw.trans (.k (l:=[_,_]) rfl) (c _ _ b)
        ·exact cw.trans (.k (l:=[_,_,_]) rfl) (c _ _ b)
        ·cases b
       ·cases b
      ·cases b
     ·cases b
    ·cases b
   ·cases b
  ·cases b
 ·cases b
variable {e:IH (R0×St)}
theorem gY(i:gI e){h:Nat}{a:St->WA (R0×St)}(j:fK a)(c:hS X e f g h v N a=some d):cw N d.2:=by
 unfold hS at c;refine fL (λm o k=>i.t (λl n p b=> ?_) k) c
 split at b
 ·exact j _ _ b
 ·cases b
theorem hU{c:Nat}{a:gi->St->WA (R0×St)}(f:dj a)(b:hT K c N a=some d):cw N d.2:=by
 unfold hT at b;split at b
 ·split at b
  ·exact cw.trans (λg e=>by first|exact e|exact .tail _ e) (f _ _ _ b)
  ·cases b
 ·split at b
  ·split at b
   ·exact cw.trans (λg e=>by first|exact e|exact .tail _ e) (f _ _ _ b)
   ·cases b
  ·cases b
 ·cases b
theorem mW{b:Str}{a:St->WA (R0×St)}(f:fK a)(e:mS K v b N a=some d):cw N d.2:=by
 unfold mS at e;split at e
 ·refine hU (λg h i c=> ?_) e
  try dsimp only at c
  split at c
  ·split at c
   ·split at c
    ·exact f _ _ c
    ·cases c
   ·cases c
  ·cases c
 ·cases e
variable {j:Type}
theorem wQ(k:gI e){i:Sem j}{a:Except Wz j->St->WA (R0×St)}(h:dj a)(b:stepT K G e f g i N a=some d):cw N d.2:=by
 cases i with
 |pure n=>exact h _ _ _ b
 |raise w=>exact h _ _ _ b
 |rule _ m=>exact k.t h b
 |«at» _ m=>exact k.t h b
 |point _ m=>exact k.t h b
 |ask m=>exact k.t h b
 |fresh m=>exact cw.trans (λl c=>by first|exact c|exact .tail _ c) (k.t h b)
 |newGen p m=>exact cw.trans (λl c=>by first|exact c|exact .tail _ c) (k.t h b)
 |handled q m=>cases q with
  |true=>simp[stepT]at b
  |false=>exact k.t h b
 |load n r m=>
  simp only[stepT]at b;split at b
  ·cases b
  ·split at b
   ·exact cw.trans (λl c=>by first|exact c|exact .tail _ c) (k.t h b)
   ·cases b
  ·split at b
   ·split at b
    ·split at b
     ·split at b
      ·exact cw.trans (λl c=>by first|exact c|exact .tail _ c) (k.t h b)
      ·cases b
     ·cases b
    ·cases b
   ·split at b<;>exact cw.trans (λl c=>by first|exact c|exact .tail _ c) (k.t h b)
 |loadIfAlive n m=>
  simp only[stepT]at b;split at b
  ·cases b
  ·split at b
   ·exact cw.trans (λl c=>by first|exact c|exact .tail _ c) (k.t h b)
   ·cases b
  ·split at b
   ·cases b
   ·split at b
    ·cases b
    ·exact cw.trans (λl c=>by first|exact c|exact .tail _ c) (k.t h b)
 |update n r x m=>
  simp only[stepT]at b;split at b
  ·split at b
   ·cases b
   ·split at b
    ·split at b
     ·exact cw.trans (λl c=>by first|exact c|exact .tail _ c) (k.t h b)
     ·cases b
    ·split at b
     ·exact cw.trans (λl c=>by first|exact c|exact .tail _ c) (k.t h b)
     ·exact cw.trans (λl c=>by first|exact c|exact .tail _ c) (k.t h b)
     ·cases b
  ·cases b
 |alloc C m=>
  simp only[stepT]at b;split at b
  ·cases b
  ·split at b
   ·exact cw.trans (λl c=>by first|exact c|exact .tail _ c) (k.t h b)
   ·exact cw.trans (λl c=>by first|exact c|exact .tail _ c) (k.t h b)
   ·cases b
 |call p A y z m=>
  simp only[stepT]at b;split at b
  ·cases b
  ·split at b
   ·cases b
   ·split at b
    ·exact cw.trans (λl c=>by first|exact c|exact .tail _ c) (k.c (λs t v o=>k.t h o) b)
    ·split at b
     ·cases b
     ·exact qN (λs t v o=>k.t h o) b
    ·cases b
 |_=>simp[stepT]at b
theorem wR(l:gI e){c:Env}{a:Except Wz Flow->St->WA (R0×St)}(m:dj a)(i:fI X e f g h c N a=some d):cw N d.2:=by
 have o:∀{r:Wy Stmt},dj (λ(p:Except Wz Flow) n=>match p with
   | .ok .next=>e.b f g r c n a
   | .ok v=>a (.ok v) n
   | .error s=>a (.error s) n):=λ{r} p n x j=>by
  try dsimp only at j
  split at j
  ·exact l.b m j
  ·exact m _ _ _ j
  ·exact m _ _ _ j
 unfold fI at i;split at i
 ·exact cw.trans (λq k=>by first|exact k|exact .tail _ k) (l.t m i)
 ·split at i
  ·exact cw.trans (λq k=>by first|exact k|exact .tail _ k) (l.t o i)
  ·cases i
 ·split at i
  ·refine cw.trans (λq k=>by first|exact k|exact .tail _ k) (l.b (λp n x j=> ?_) i)
   try dsimp only at j
   split at j
   ·exact l.b o j
   ·exact m _ _ _ j
   ·exact gY l (λy z w=>l.t o w) j
  ·cases i
 ·exact wP m i
 ·cases i
theorem qO(j:gI e){b:wM}{c:Env}{a:St->WA (R0×St)}(m:fK a)(l:wN K X G e f g b c N a=some d):cw N d.2:=by
 unfold wN at l;split at l
 ·refine hU (λo p i h=> ?_) l
  try dsimp only at h
  split at h
  ·split at h
   ·refine hU (λn q i h=> ?_) h
    try dsimp only at h
    split at h
    ·split at h
     ·refine j.t (λk r i h=> ?_) h
      try dsimp only at h
      split at h
      ·split at h
       ·refine j.t (λk s i h=> ?_) h
        try dsimp only at h
        split at h
        ·refine j.t (λk v i h=> ?_) h
         try dsimp only at h
         split at h
         ·refine j.t (λk w i h=> ?_) h
          try dsimp only at h
          split at h
          ·refine j.t (λk x i h=> ?_) h
           try dsimp only at h
           split at h
           ·refine j.t (λk y i h=> ?_) h
            try dsimp only at h
            split at h
            ·exact m _ _ h
            ·cases h
           ·cases h
          ·cases h
         ·cases h
        ·cases h
       ·cases h
      ·cases h
     ·cases h
    ·cases h
   ·cases h
  ·cases h
 ·cases l
theorem lu(j:gI e){c:Env}{a:Except Wz Flow->St->WA (R0×St)}(l:dj a)(i:kC K X G e f g h c N a=some d):cw N d.2:=by
 unfold kC at i;split at i
 ·split at i
  ·split at i
   ·refine cw.trans (λo m=>by first|exact m|exact .tail _ m) (j.t (λp q s k=> ?_) i)
    try dsimp only at k
    split at k
    ·exact qO j (λr v n=>j.b l n) k
    ·cases k
   ·cases i
  ·cases i
 ·exact j.b l i
theorem oE{c e:Nat}{a:St->WA (R0×St)}(f:fK a)(b:iQ c e N a=some d):cw N d.2:=by
 unfold iQ at b;split at b
 ·split at b
  ·exact cw.trans (.k (l:=[_,_]) rfl) (f _ _ b)
  ·cases b
 ·cases b
theorem wS(k:gI e){a:WH->St->WA (R0×St)}(j:dj a)(i:ek K X G e f g c N a=some d):cw N d.2:=by
 unfold ek at i;split at i
 ·split at i
  ·refine cw.trans (λo h=>by first|exact h|exact .tail _ h) (hU (λw p l b=> ?_) i)
   try dsimp only at b
   split at b
   ·split at b
    ·cases b
    ·refine mW (λr l b=>k.t (λm s l b=> ?_) b) b
     try dsimp only at b
     split at b
     ·cases b
     ·refine k.t (λm v l b=> ?_) b
      try dsimp only at b
      split at b
      ·cases b
      ·split at b
       ·exact cw.trans (λo h=>by first|exact h|exact .tail _ h) (j _ _ _ b)
       ·split at b
        ·split at b
         ·split at b
          ·refine cw.trans (λo h=>by first|exact h|exact .tail _ h) (lu k (λm q l b=> ?_) b)
           try dsimp only at b
           split at b
           ·exact j _ _ _ b
           ·exact j _ _ _ b
           ·exact gY k (λ_ _ n=>j _ _ _ n) b
          ·cases b
         ·cases b
        ·cases b
       ·split at b
        ·split at b
         ·split at b
          ·refine cw.trans (λo h=>by first|exact h|exact .tail _ h) (k.t (λm q l b=> ?_) b)
           try dsimp only at b
           split at b
           ·exact j _ _ _ b
           ·exact gY k (λ_ _ n=>j _ _ _ n) b
          ·cases b
         ·cases b
        ·cases b
   ·cases b
  ·cases i
 ·split at i
  ·cases i
  ·refine cw.trans (λo h=>by first|exact h|exact .tail _ h) (k.t (λm p l b=> ?_) i)
   try dsimp only at b
   split at b
   ·exact j _ _ _ b
   ·split at b
    ·exact k.c j b
    ·cases b
   ·exact j _ _ _ b
 ·exact qN j i
 ·split at i
  ·split at i
   ·split at i
    ·refine cw.trans (λo h=>by first|exact h|exact .tail _ h) (k.t (λm p l b=> ?_) i)
     try dsimp only at b
     split at b
     ·exact j _ _ _ b
     ·split at b
      ·exact k.c j b
      ·cases b
     ·exact fL (λ_ _ n=>j _ _ _ n) b
    ·refine cw.trans (λo h=>by first|exact h|exact .tail _ h) (k.t (λm p l b=> ?_) i)
     try dsimp only at b
     split at b
     ·exact j _ _ _ b
     ·exact fL (λ_ _ n=>j _ _ _ n) b
   ·cases i
  ·cases i
 ·split at i
  ·split at i
   ·refine cw.trans (λo h=>by first|exact h|exact .tail _ h) (k.t (λm p l b=> ?_) i)
    try dsimp only at b
    split at b
    ·refine k.t (λm p l b=> ?_) b
     try dsimp only at b
     split at b
     ·refine oE (λr l b=>k.t (λm s l b=> ?_) b) b
      try dsimp only at b
      split at b
      ·refine fL (λv l b=>k.t (λm q l b=> ?_) b) b
       try dsimp only at b
       split at b
       ·exact fL (λ_ _ n=>j _ _ _ n) b
       ·cases b
      ·cases b
     ·cases b
    ·cases b
   ·cases i
  ·cases i
 ·split at i
  ·exact cw.trans (λo h=>by first|exact h|exact .tail _ h) (j _ _ _ i)
  ·cases i
 ·cases i
variable {i:Sem PySem.Fin}
theorem j6(k:gI e){g:Pos}{h:Nat}(l:dj a)(j:eL e f c g i b h N a=some d):cw N d.2:=by
 unfold eL at j;split at j
 ·exact cw.trans (λg m=>uc _ m) (k.s l j)
 ·cases j
theorem qP(j:gI e){c:WH}{h:Nat}(i:dj a)(g:wO e f c b h N a=some d):cw N d.2:=by
 unfold wO at g;split at g
 ·exact i _ _ _ g
 ·exact j6 j i g
 ·cases g
theorem gZ(m:gI e){g:Pos}{h:Nat}{k:Sem j}{i:j->Sem PySem.Fin}(o:dj a)(n:jR e f c g b h k i N a=some d):cw N d.2:=by
 unfold jR at n;refine m.t (λp q r l=> ?_) n
 split at l
 ·exact m.s o l
 ·cases l
theorem wT(l:gI e){g:Pos}{h:Nat}(k:dj a)(j:ez X G e f c g i b h N a=some d):cw N d.2:=by
 unfold ez at j;split at j
 ·exact qP l k j
 ·exact qP l k j
 ·split at j
  ·cases j
  ·split at j
   ·exact(j6 l k j:cw _ _)
   ·exact oD k j
   ·cases j
 ·split at j
  ·exact k _ _ _ j
  ·cases j
 ·exact l.s k j
 ·exact l.s k j
 ·exact l.s k j
 ·exact l.s k j
 ·exact l.s k j
 ·exact gZ l k j
 ·exact gZ l k j
 ·exact gZ l k j
 ·exact gZ l k j
 ·exact gZ l k j
 ·split at j
  ·split at j
   ·exact(j6 l k j:cw _ _)
   ·cases j
  ·split at j
   ·exact cw.trans (λg m=>by first|exact m|exact .tail _ m) (oD k j)
   ·cases j
  ·exact gZ l k j
 ·cases j
theorem cv:∀n,gI (iter (R:=R0×St) K X G n)
 |0=>by
  constructor
  ·intro p c g i d f b e a;simp[iter]at a
  ·intro c g h d f b e a;simp[iter]at a
  ·intro c g o k d f b e a;simp[iter]at a
  ·intro c h m i l j d f b e a;simp[iter]at a
 |n+1=>by
  constructor
  ·intro p c g i d f b e a;exact wQ (cv n) b a
  ·intro c g h d f b e a;exact wS (cv n) b a
  ·intro c g o k d f b e a;exact wR (cv n) b a
  ·intro c h m i l j d f b e a;exact wT (cv n) b a
end
end
variable {F:WK} {Z:Wy Addr} {I:WF}
section
def cR(a:Heap)(c:cK):Prop:=match c.fr with
 |true=>∃b,a.get? c.addr=some (ea c.obj b)
 |false=>a.get? c.addr=some c.obj
def addrs(a:Wy cK):uh:=a.map (·.addr)
def cC(a:WK):Wy Addr:=(a.frames.getD []).filterMap (·.frame)
def eB(f:Nat->WA gi)(e:WK)(g:Heap):Prop:=
 ∃c,e.frames=some c/\∀b∈c,b.scope.kind≠ .module/\∃a d,b.frame=some a/\g.get? a=some d/\ew d=true/\f a=none
def gq(c:Nat->WA gi)(d:Heap):Prop:=∀a b,c a=some b->d.get? a=some b
structure kF(o o':gi):Prop where
 nf:ew o=true->ew o'=true
 row:∀r,hQ o=some r->hQ o'=some r
theorem kF.refl(a:gi):kF a a:=⟨id,λ_=>id⟩
theorem kF.trans{a b c:gi}(f:kF a b)(g:kF b c):kF a c:=⟨λd=>g.nf (f.nf d),λe d=>g.row e (f.row e d)⟩
def FO(c:Heap)(e:Wz)(d:dh):Prop:=∃a b,e= .ref a/\c.get? a=some b/\hQ b=some d
def eM{b c:Type}(d:b->c->Prop):Wy b->Wy c->Prop
 |[],[]=>True
 |a::f,e::g=>d a e/\eM d f g
 |_,_=>False
theorem eM.imp{b c:Type}{a d:b->c->Prop}(h:∀f g,a f g->d f g):∀{i:Wy b} {j:Wy c},eM a i j->eM d i j
 |[],[],_=>trivial
 |_::_,_::_,e=>⟨h _ _ e.1,eM.imp h e.2⟩
 |[],_::_,e=>e.elim
 |_::_,[],e=>e.elim
theorem eM.append{b c:Type}{a:b->c->Prop}:∀{f g:Wy b} {h i:Wy c},eM a f h->eM a g i->eM a (f++g) (h++i)
 |[],_,[],_,_,e=>e
 |_::_,_,_::_,_,d,e=>⟨d.1,eM.append d.2 e⟩
 |[],_,_::_,_,d,_=>d.elim
 |_::_,_,[],_,d,_=>d.elim
def dV(a:Heap)(B:jz):Prop:=eM (FO a) B.xs.toList B.rows
structure Step(fs as gs:Wy Addr)(s s1:WF):Prop where
 chg:∀b o,s.heap.get? b=some o->b∉as->s1.heap.get? b=some o\/(b∈fs/\∃sl,s1.heap.get? b=some (ea o sl))
 U7:∀b o,s.heap.get? b=some o->∃o',s1.heap.get? b=some o'/\kF o o'
 os:s1.os=s.os
 gens:∀g x,s.gens[g]?=some x->g∉gs->s1.gens[g]?=some x
theorem Step.refl(e d f:Wy Addr)(c:WF):Step e d f c c:=⟨λ_ _ a _=>.inl a,λ_ b a=>⟨b,a,.refl b⟩,rfl,λ_ _ a _=>a⟩
theorem Step.trans{a Z b as1 gs1:Wy Addr}{I s1 J:WF}(k:Step a Z b I s1)(i:Step a as1 gs1 s1 J)
 (o:∀c∈as1,c∈Z\/I.heap.get? c=none)(p:∀e∈gs1,e∈b\/I.gens[e]?=none):Step a Z b I J:=by
 refine⟨λc j d h=> ?_,λc j d=> ?_,i.os.trans k.os,λe n d h=> ?_⟩
 ·have m:c∉as1:=λq=>by
   rcases o c q with q|q
   ·exact h q
   ·rw[q]at d;cases d
  rcases k.chg c j d h with f|⟨l,w,f⟩
  ·exact i.chg c j f m
  ·rcases i.chg c _ f m with g|⟨_,x,g⟩
   ·exact .inr ⟨l,w,g⟩
   ·exact .inr ⟨l,x,g⟩
 ·obtain⟨t,f,r⟩:=k.U7 c j d;obtain⟨v,g,s⟩:=i.U7 c t f;exact⟨v,g,r.trans s⟩
 ·refine i.gens e n (k.gens e n d h) λq=> ?_
  rcases p e q with q|q
  ·exact h q
  ·rw[q]at d;cases d
variable {a b:Wy Addr}
theorem Step.UO{s1:WF}(m:Step a Z b I s1){B:jz}(e:dV I.heap B):dV s1.heap B:=eM.imp (λn l ⟨c,j,d,f,g⟩=>by
 obtain⟨k,h,i⟩:=m.U7 c j f;exact⟨c,k,d,h,i.row l g⟩) e
theorem Step.weaken{d c:Wy Addr}{s1:WF}(f:Step a Z b I s1)(k:∀e∈a,e∈d\/e∈c)(j:∀e∈Z,e∈c):Step d c b I s1:=by
 refine⟨λe l h g=> ?_,f.U7,f.os,f.gens⟩
 rcases f.chg e l h (λq=>g (j e q))with i|⟨q,m⟩
 ·exact .inl i
 ·rcases k e q with q|q
  ·exact .inr ⟨q,m⟩
  ·exact absurd q g
structure oi(A:WK)(d:Nat)(cx:Cx):Prop where
 hd:A.handled=cx.hd
 top:∀L,cx.top=some L->L∈cC A
 dep:A.depth+2*d<=900
 U9:A.units+12*d<=9000
structure MV(A:WK)(d:Nat)(cx:Cx):Prop where
 hd:A.handled=cx.hd
 top:∀L,cx.top=some L->L∈cC A
 dep:A.depth+2*d+2<=900
 U9:A.units+12*d+12<=9000
structure JP(A:WK)(d:Nat):Prop where
 hd:A.handled=none
 dep:A.depth+2*d+48<=900
 U9:A.units+12*d+80<=9000
def gz(c:Nat->WA gi)(a:Addr)(d:Heap):Prop:=c a=none/\∃b,d.get? a=some b/\ew b=true
def eg(a:Wy (Nat×WI)):uh:=a.map (·.1)
structure d7(K:Nat->WA gi)(E:mw)(fs:Wy Addr)(s:WF):Prop where
 pre:∀c∈E.pre,cR s.heap c/\K c.addr=none/\(c.fr=false->c.addr∉fs)
 nd:(addrs E.pre).Nodup
 UR:∀p∈E.UR,s.gens[p.1]?=some p.2
 U6:(eg E.UR).Nodup
 UX:∀B∈E.UX,dV s.heap B
structure eh(E:mw)(fs:Wy Addr)(al:AL)(sl:SL)(s s1:WF):Prop where
 step:Step fs (addrs E.pre) (eg E.UR) s s1
 len:(E.post al sl).length=E.pre.length
 post:∀q∈E.pre.zip (E.post al sl),cR s1.heap ⟨q.1.addr,q.2,q.1.fr⟩
 Vi:(E.UQ al sl).length=E.UR.length
 UQ:∀q∈E.UR.zip (E.UQ al sl),s1.gens[q.1.1]?=some q.2
 new:∀c∈E.new al sl,cR s1.heap c/\s.heap.get? c.addr=none
 VK:(addrs (E.new al sl)).Nodup
 UW:∀p∈E.UW al sl,s1.gens[p.1]?=some p.2/\s.gens[p.1]?=none
 Vj:(eg (E.UW al sl)).Nodup
 US:∀B∈E.US al sl,dV s1.heap B
 bare:AllBare s1.gens
section
variable (P:WJ) (w:WG) (K:Nat->WA gi)
@[reducible] def runC (e:Model) (d:WK) (c:Code) (a:WH->WF->Prop) (f:WF):Prop:=match c with
 | .block j h=>wpAny e d (execs j h) (λi b=>a (.ok i) b) (λg b=>a (.error g) b) f
 |c=>codeAny e d c a f
theorem oF{a:Model}{c:Code}{b:WH->WF->Prop}(d:jA c=false):runC a F c b I=codeAny a F c b I:=by cases c<;>first|rfl|cases d
def ct(S:Spec):Prop:=∀(b:WK) (R:WH->WF->Prop) (a:WF),MV b S.dep ⟨none,S.top⟩->eB K b a.heap->gq K a.heap->AllBare a.gens->d7 K S.UM (cC b) a->
 (∀c d s1,eh S.UM (cC b) c d a s1->R (S.res c d) s1)->runC (model P w) b S.code R a
def gb(S:Seg):Prop:=∀(b:WK) (R:End->WF->Prop) (a:WF),JP b S.dep->eB K b a.heap->gz K S.fr a.heap->gq K a.heap->AllBare a.gens->d7 K S.UM (S.fr::cC b) a->
 (∀c d s1,eh S.UM (S.fr::cC b) c d a s1->R (S.res c d) s1)->SegX (model P w) b S.code (S.start.getD (denote table S.code)) S.fs a R
structure Rep(fs:Wy Addr)(st:St)(s:WF):Prop where
 cell:∀c∈st.led,cR s.heap c
 nd:(addrs st.led).Nodup
 nk:∀c∈st.led,K c.addr=none
 nf:∀c∈st.led,c.fr=false->c.addr∉fs
 base:gq K s.heap
 gen:∀p∈st.gl,s.gens[p.1]?=some p.2
 U6:(eg st.gl).Nodup
 bare:AllBare s.gens
 use:∀u∈st.use,∀c os fs,ct P w K (u.spec c os fs)
 UN:∀u∈st.UN,∀c os fs,gb P w K (u.seg c os fs)
 UO:∀B∈st.bl,dV s.heap B
end
section
variable {R0:Type} {P:WJ} {w:WG} {K:Nat->WA gi}
def Good(c:R0->St->Prop)(d:WA (R0×St)):Prop:=∃b a,d=some (b,a)/\i0 a/\c b a
structure cU(fs:Wy Addr)(st:St)(s:WF)(st1:St)(s1:WF):Prop where
 step:Step fs (addrs st.led) (eg st.gl) s s1
 led:∀c∈st1.led,c.addr∈addrs st.led\/s.heap.get? c.addr=none
 gl:∀p∈st1.gl,p.1∈eg st.gl\/s.gens[p.1]?=none
theorem cU.refl(d:Wy Addr)(c:St)(b:WF):cU d c b c b:=⟨.refl ..,λ_ a=>.inl (t8 a),λ_ a=>.inl (t8 a)⟩
theorem cU.trans{Z:Wy Addr}{N st1 O:St}{I s1 J:WF}(a:cU Z N I st1 s1)(i:cU Z st1 s1 O J):cU Z N I O J:=by
 refine⟨a.step.trans i.step (λo l=> ?_) (λp m=> ?_),λb c=> ?_,λh n=> ?_⟩
 ·obtain⟨b,c,rfl⟩:=ua l;exact a.led b c
 ·obtain⟨b,c,rfl⟩:=ua m;exact a.gl b c
 ·rcases i.led b c with q|q
  ·obtain⟨d,g,e⟩:=ua q;rw[<-e];exact a.led d g
  ·refine .inr ?_;cases f:I.heap.get? b.addr with
   |none=>rfl
   |some r=>obtain⟨s,j,_⟩:=a.step.U7 _ _ f;rw[q]at j;cases j
 ·rcases i.gl h n with q|q
  ·obtain⟨d,g,e⟩:=ua q;rw[<-e];exact a.gl d g
  ·by_cases k:h.1∈eg N.gl
   ·exact .inl k
   ·refine .inr ?_;cases f:I.gens[h.1]? with
    |none=>rfl
    |some t=>rw[a.step.gens _ _ f k]at q;cases q
theorem eB.UU{s1:WF}(o:eB K F I.heap)(p:cU Z N I O s1):eB K F s1.heap:=by
 obtain⟨m,h,c⟩:=o;refine⟨m,h,λb e=> ?_⟩
 obtain⟨g,a,q,f,k,i,d⟩:=c b e;obtain⟨n,l,j⟩:=p.step.U7 _ _ k;exact⟨g,a,n,f,l,j.nf i,d⟩
theorem eB.under{a:Heap}(f:eB K F a){B:WK}(b:B.frames=F.frames):eB K B a:=by obtain⟨d,c,e⟩:=f;exact⟨d,b.trans c,e⟩
variable {st1:St}
theorem cU.same(s:WF)(c:st1.led=N.led)(d:st1.gl=N.gl):cU Z N s st1 s:=by
 refine⟨.refl ..,λe a=>.inl ?_,λf b=>.inl ?_⟩
 ·rw[c]at a;exact t8 a
 ·rw[d]at b;exact t8 b
theorem Rep.same{s:WF}(a:Rep P w K Z N s)(b:st1.led=N.led)(c:st1.gl=N.gl)(d:st1.use=N.use)(e:st1.UN=N.UN)(f:st1.bl=N.bl:=by rfl):Rep P w K Z st1 s:=by
 refine⟨?_, ?_, ?_, ?_,a.base, ?_, ?_,a.bare, ?_, ?_, ?_⟩
 ·rw[b];exact a.cell
 ·rw[b];exact a.nd
 ·rw[b];exact a.nk
 ·rw[b];exact a.nf
 ·rw[c];exact a.gen
 ·rw[c];exact a.U6
 ·rw[d];exact a.use
 ·rw[e];exact a.UN
 ·rw[f];exact a.UO
theorem gr:∀(a:Wy cK) (d:Nat) (b:gi),addrs (da a d b)=addrs a
 |[],_,_=>rfl
 |c::a,0,b=>rfl
 |c::a,d+1,b=>congrArg (c.addr:: ·) (gr a d b)
theorem hV:∀{d:Wy cK} {h:Nat} {i:gi} {c:cK},cellAt d h=some c->∀f∈da d h i,f=⟨c.addr,i,c.fr⟩\/(f∈d/\(f.addr=c.addr->(addrs d).Nodup->False))
 |[],_,_,_,e,_,_=>by simp[cellAt]at e
 |a::d,0,i,c,e,f,j=>by
  simp only[cellAt,List.getElem?_cons_zero,Option.some.injEq]at e;subst e;rcases t6 j with q|q
  ·exact .inl q
  ·refine .inr ⟨.tail _ q,λg b=> ?_⟩
   simp only[addrs,List.map_cons,List.nodup_cons]at b;exact b.1 (g▸t8 q)
 |a::d,h+1,i,c,e,f,j=>by
  have k:cellAt d h=some c:=by simpa[cellAt]using e
  rcases t6 j with q|q
  ·subst q;refine .inr ⟨.head _,λg b=> ?_⟩
   simp only[addrs,List.map_cons,List.nodup_cons]at b;exact b.1 (g▸t8 (t9 k))
  ·rcases hV k f q with l|⟨m,n⟩
   ·exact .inl l
   ·refine .inr ⟨.tail _ m,λg b=>n g ?_⟩
    simp only[addrs,List.map_cons,List.nodup_cons]at b;exact b.2
end
end
variable {d:Nat}
section
section
variable {R0:Type} {P:WJ} {w:WG} {K:Nat->WA gi} {F:R0->St->Prop}
theorem cR.get{a:Heap}{c:cK}(b:cR a c):∃d,a.get? c.addr=some d/\d.data=c.obj.data:=by
 unfold cR at b;split at b
 ·obtain⟨f,e⟩:=b;exact⟨_,e,rfl⟩
 ·exact⟨_,b,rfl⟩
variable {a:gi}
theorem wU{b:gi}(c:b.data=a.data):ew b=ew a:=by unfold ew;rw[c]
variable {c:cK}
theorem cR.same{a b:Heap}(d:cR a c)(e:b.get? c.addr=a.get? c.addr):cR b c:=by unfold cR at*;split at d<;>(rw[e];exact d)
variable {st1:St}
theorem gm(e:Rep P w K Z N I){f:gi->gi}{o':gi}
 (m:cellAt N.led d=some c)(s:I.heap.get? c.addr=some a)(x:(f a).isFreed=false)(O:∀n:Heap,n.get? c.addr=some (f a)->cR n ⟨c.addr,o',c.fr⟩)(L:kF a (f a))
 (k:st1.led=da N.led d o')(r:st1.gl=N.gl)(D:st1.use=N.use)(G:st1.UN=N.UN)(H:st1.bl=N.bl:=by rfl):
  Rep P w K Z st1 {I with heap:=I.heap.update c.addr f}/\cU Z N I st1 {I with heap:=I.heap.update c.addr f}:=by
 have z:(I.heap.update c.addr f).get? c.addr=some (f a):=by first|exact Heap.get?_update_self f s x|exact Heap.get?_update_self _ s x
 have p:∀i,i≠c.addr->(I.heap.update c.addr f).get? i=I.heap.get? i:=λi j=>Heap.get?_update_ne _ _ _ _ j
 have o:=t9 m;have A:Step Z (addrs N.led) (eg N.gl) I {I with heap:=I.heap.update c.addr f}:=⟨λi t j M=>.inl (by
  have:i≠c.addr:=λb=>M (b▸t8 o)
  show(I.heap.update c.addr f).get? i=some t;rw[p _ this];exact j),λi t j=>(by
  by_cases b:i=c.addr
  ·subst b;rw[s]at j;cases j;exact⟨_,z,L⟩
  ·exact⟨t,(p _ b).trans j,.refl _⟩),rfl,λQ g n _=>n⟩
 refine⟨⟨λg h=> ?_, ?_,λg h=> ?_,λg h C=> ?_,λq a b=> ?_, ?_, ?_,e.bare, ?_, ?_,λB J=>A.UO (e.UO B (H▸J))⟩,⟨A,λg h=> ?_,λT y=> ?_⟩⟩
 ·rw[k]at h;rcases hV m g h with b|⟨l,v⟩
  ·subst b;exact O _ z
  ·have:g.addr≠c.addr:=λb=>v b e.nd
   exact(e.cell g l).same (p _ this)
 ·rw[k,gr];exact e.nd
 ·rw[k]at h;rcases hV m g h with b|⟨l,v⟩
  ·subst b;exact e.nk c o
  ·exact e.nk g l
 ·rw[k]at h;rcases hV m g h with b|⟨l,v⟩
  ·subst b;exact e.nf c o C
  ·exact e.nf g l C
 ·have:q≠c.addr:=λg=>by rw[g,e.nk c o]at b;cases b
  show(I.heap.update c.addr f).get? q=some a;rw[p _ this];exact e.base q a b
 ·rw[r];exact e.gen
 ·rw[r];exact e.U6
 ·rw[D];exact e.use
 ·rw[G];exact e.UN
 ·left;rw[k]at h;have:g.addr∈addrs (da N.led d o'):=t8 h;rwa[gr]at this
 ·rw[r]at y;exact .inl (t8 y)
theorem hI(a:Heap):a.get? a.objs.size=none:=by
 cases b:a.get? a.objs.size with
 |none=>rfl
 |some c=>exact absurd (Heap.lt_size b) (Nat.lt_irrefl _)
theorem kG(a:Rep P w K Z N I)(C:∀t∈Z,∃c,I.heap.get? t=some c){o:gi}{b:Bool}(A:o.isFreed=false)(i:st1.led=⟨I.heap.objs.size,o,b⟩::N.led)(k:st1.gl=N.gl)(v:st1.use=N.use)(x:st1.UN=N.UN)(y:st1.bl=N.bl:=by rfl):
  Rep P w K Z st1 {I with heap:=I.heap.push o}/\cU Z N I st1 {I with heap:=I.heap.push o}:=by
 have j:∀b c,I.heap.get? b=some c->(I.heap.push o).get? b=some c:=λb c d=>Heap.get?_push_of_some _ d
 have m:(I.heap.push o).get? I.heap.objs.size=some o:=Heap.get?_push_size _ A;have fresh:∀f∈N.led,f.addr≠I.heap.objs.size:=λf h q=>by
  obtain⟨c,d,_⟩:=(a.cell f h).get;exact absurd (Heap.lt_size d) (by rw[q];exact Nat.lt_irrefl _)
 have H:∀f∈N.led,cR (I.heap.push o) f:=λf h=>by
  obtain⟨c,d,_⟩:=(a.cell f h).get;exact(a.cell f h).same ((j _ _ d).trans d.symm)
 have p:Step Z (addrs N.led) (eg N.gl) I {I with heap:=I.heap.push o}:=⟨λb c l L=>.inl (j _ _ l),λb c l=>⟨c,j _ _ l,.refl _⟩,rfl,λJ g d _=>d⟩
 refine⟨⟨λg e=> ?_, ?_,λg e=> ?_,λg e G=> ?_,λr o q=>j _ _ (a.base r o q), ?_, ?_,a.bare, ?_, ?_,λB z=>p.UO (a.UO B (y▸z))⟩,⟨p,λg e=> ?_,λM n=> ?_⟩⟩
 ·rw[i]at e;rcases t6 e with q|q
  ·subst q;unfold cR;cases b with
   |true=>exact⟨o.slots,m⟩
   |false=>exact m
  ·exact H g q
 ·rw[i];refine List.nodup_cons.mpr ⟨λq=> ?_,a.nd⟩
  obtain⟨f,h,s⟩:=ua q;exact fresh f h s
 ·rw[i]at e;rcases t6 e with q|q
  ·subst q;cases q:K I.heap.objs.size with
   |none=>rfl
   |some c=>have:=a.base _ _ q;rw[hI]at this;cases this
  ·exact a.nk g q
 ·rw[i]at e;rcases t6 e with q|q
  ·subst q;intro D;obtain⟨c,d⟩:=C _ D;rw[hI]at d;cases d
  ·exact a.nf g q G
 ·rw[k];exact a.gen
 ·rw[k];exact a.U6
 ·rw[v];exact a.use
 ·rw[x];exact a.UN
 ·rw[i]at e;rcases t6 e with q|q
  ·subst q;exact .inr (hI _)
  ·exact .inl (t8 q)
 ·rw[k]at n;exact .inl (t8 n)
theorem u9(a:Rep P w K Z N I){c:Code}(f:st1.led=N.led)(i:st1.gl=(I.gens.size,.fresh c)::N.gl)(r:st1.use=N.use)(s:st1.UN=N.UN)(t:st1.bl=N.bl:=by rfl):
  Rep P w K Z st1 {I with gens:=I.gens.push (.fresh c)}/\cU Z N I st1 {I with gens:=I.gens.push (.fresh c)}:=by
 have l:∀e d,I.gens[e]?=some d->(I.gens.push (GenState.fresh c))[e]?=some d:=λe d g=>by
  rw[Array.getElem?_push];have:=(Array.getElem?_eq_some_iff.mp g).1;rw[if_neg (by omega)];exact g
 have k:I.gens[I.gens.size]?=none:=by simp
 refine⟨⟨?_, ?_, ?_, ?_,a.base,λh b=> ?_, ?_,a.bare.push rfl, ?_, ?_,λB v=>a.UO B (t▸v)⟩,⟨⟨λo n j _=>.inl j,λo n j=>⟨n,j,.refl _⟩,rfl,λe d g _=>l e d g⟩,λd m=> ?_,λh b=> ?_⟩⟩
 ·rw[f];exact a.cell
 ·rw[f];exact a.nd
 ·rw[f];exact a.nk
 ·rw[f];exact a.nf
 ·rw[i]at b;rcases t6 b with q|q
  ·subst q;show(I.gens.push (GenState.fresh c))[I.gens.size]?=_;simp
  ·exact l _ _ (a.gen h q)
 ·rw[i];refine List.nodup_cons.mpr ⟨λq=> ?_,a.U6⟩
  obtain⟨h,b,p⟩:=ua q;have:=a.gen h b;rw[p,k]at this;cases this
 ·rw[r];exact a.use
 ·rw[s];exact a.UN
 ·rw[f]at m;exact .inl (t8 m)
 ·rw[i]at b;rcases t6 b with q|q
  ·subst q;exact .inr k
  ·exact .inl (t8 q)
end
end
section
variable {c:Code}
theorem i3(a:gp c=true):c.isFrame=false:=by
 unfold gp at a;unfold Code.isFrame;split at a<;>simp_all
 all_goals (split<;>simp_all)
theorem pB(a:gp c=true):c.isCaller=false:=by
 cases c with
 |builtin id g=>
  simp only[gp]at a;cases f:PySem.W.S.strDecS id "claim.caller" with
  |isTrue b=>rw[f]at a;cases a
  |isFalse b=>
   unfold Code.isCaller;split
   ·rename_i d;injection d with e _;exact absurd e b
   ·rfl
 |_=>rfl
theorem oG{a:String}{b:Args}(c:gp (.builtin a b)=true):a≠ "proto.\x69mport.load" /\a≠ "proto.\x69mport.exec" :=by
 simp only[gp]at c;split at c
 ·rename_i e1 e2 _ _ _;exact⟨e1,e2⟩
 ·cases c
theorem pC(a:gp c=true):c.frames<=1:=by unfold Code.frames;split<;>first|omega|exact absurd rfl (oG a).1|exact absurd rfl (oG a).2|(rw[i3 a];simp)
theorem im(b:gp c=true):c.weight<=2:=by
 have d:=pB b;have e:=pC b;unfold Code.weight;rw[d];have f:(if c.isGuard=true then 1 else 0)<=1:=by split<;>omega
 simp only[Bool.false_eq_true,if_false];cases a:c.isCreation with
 |false=>simp only[Bool.false_eq_true,if_false];omega
 |true=>
  have:c.frames=0:=by
   unfold Code.isCreation at a;split at a
   ·rfl
   ·cases a
  simp only[if_true];omega
theorem i4(a:gp c=true):c.cUnits<=12:=by
 have b:c.frames<=3:=by
  unfold Code.frames;split<;>first|omega|(rw[i3 a];simp)
 unfold Code.cUnits;split<;>omega
theorem s8(a:gp c=true):c.envs=[]:=by simp[Code.envs,i3 a]
theorem i5{A:WK}(a:gp c=true):(A.under c).frames=A.frames:=by show pushEnvs c.envs A.frames=A.frames;rw[s8 a];cases A.frames<;>simp[pushEnvs]
end
variable {a:Nat}
section
theorem mX:∀{b:uh} {a:Nat},a∈b->s7 a b=true
 |q::b,a,d=>by
  unfold s7;cases c:Nat.beq a q with
  |true=>rfl
  |false=>
   rcases t6 d with z|z
   ·rw[z,Nat.beq_refl]at c;cases c
   ·exact mX z
variable {d:Wy g8}
theorem io{c:cK}{e b:Wy cK}(f:collect (a::W) (c::e) b=some d)(j:∀h∈d,h.ok):
  ∃g i,cellAt b a=some g/\s7 a W=false/\collect W e b=some i/\(∀h∈i,h.ok)/\g.addr=c.addr/\g.fr=c.fr/\(c.fr=false->g.obj=c.obj)/\kA g.obj=kA c.obj:=by
 simp only[collect]at f;split at f
 ·rename_i g q;split at f
  ·cases f
  ·rename_i l k m;split at f
   ·rename_i i o;cases f;exact⟨g,i,q,m,o,λh n=>j h (.tail _ (.tail _ n)),j _ (.head _),l.trans k.symm,λr=>absurd (k.symm.trans r) (by simp),j _ (.tail _ (.head _))⟩
   ·cases f
  ·rename_i l k m;split at f
   ·rename_i i o;cases f;have p:g.obj=c.obj:=j _ (.tail _ (.head _));exact⟨g,i,q,m,o,λh n=>j h (.tail _ (.tail _ n)),j _ (.head _),l.trans k.symm,λ_=>p,by rw[p]⟩
   ·cases f
  ·cases f
 ·cases f
theorem hv:∀{i:uh} {h f:Wy cK} {d:Wy g8},collect i h f=some d->(∀e∈d,e.ok)->
  ∀b∈h,∃g∈i,∃a,cellAt f g=some a/\a.addr=b.addr/\a.fr=b.fr/\(b.fr=false->a.obj=b.obj)/\kA a.obj=kA b.obj
 |[],[],_,_,_,_=>λb n=>by cases n
 |[],_::_,_,_,c,_=>by simp[collect]at c
 |_::_,[],_,_,c,_=>by simp[collect]at c
 |g::i,b::h,f,d,c,p=>by
  obtain⟨a,v,k,w,l,q,e1,e2,e3,j⟩:=io c p;intro t o;rcases t6 o with e|e
  ·subst e;exact⟨g,.head _,a,k,e1,e2,e3,j⟩
  ·obtain⟨r,m,s⟩:=hv l q t e;exact⟨r,.tail _ m,s⟩
theorem j7:∀{l:Wy cK},(addrs l).Nodup->∀{p q:Nat} {c b:cK},cellAt l p=some c->cellAt l q=some b->c.addr=b.addr->p=q
 |[],_,_,_,_,_,k,_,_=>by simp[cellAt]at k
 |a::l,e,p,q,c,b,h,d,g=>by
  simp only[addrs,List.map_cons,List.nodup_cons]at e;cases p with
  |zero=>
   simp only[cellAt,List.getElem?_cons_zero,Option.some.injEq]at h;cases q with
   |zero=>rfl
   |succ q=>
    have i:l[q]?=some b:=by simpa[cellAt]using d
    have:=t8 (f:=cK.addr) (t9 i);rw[<-g,<-h]at this;exact absurd this e.1
  |succ p=>
   have j:l[p]?=some c:=by simpa[cellAt]using h
   cases q with
   |zero=>
    simp only[cellAt,List.getElem?_cons_zero,Option.some.injEq]at d;have:=t8 (f:=cK.addr) (t9 j);rw[g,<-d]at this;exact absurd this e.1
   |succ q=>
    have i:l[q]?=some b:=by simpa[cellAt]using d
    rw[j7 (l:=l) e.2 (p:=p) (q:=q) j i g]
theorem jS:∀{j:uh} {e d:Wy cK} {c:Wy g8},collect j e d=some c->(∀b∈c,b.ok)->(addrs d).Nodup->(addrs e).Nodup
 |[],[],_,_,_,_,_=>by simp[addrs]
 |[],_::_,_,_,a,_,_=>by simp[collect]at a
 |_::_,[],_,_,a,_,_=>by simp[collect]at a
 |r::j,z::e,d,c,a,q,h=>by
  obtain⟨v,y,l,g,f,i,e1,e2,e3,x⟩:=io a q;unfold addrs;rw[List.map_cons];refine List.nodup_cons.mpr ⟨λn=> ?_,jS f i h⟩
  obtain⟨t,p,b⟩:=ua n;obtain⟨s,o,w,m,k,_⟩:=hv f i t p;have:r=s:=j7 h l m (by rw[e1,k,b]);rw[this,mX o]at g;cases g
theorem hJ:∀(c:uh) (b:uk) (a:Wy cK),addrs (ec c b a)=addrs a
 |[],_,_=>by simp[ec]
 |_::_,[],_=>by simp[ec]
 |e::c,d::b,a=>by rw[ec,hJ c b,gr]
theorem qQ{b:Wy cK}{c:cK}(e:cellAt b a=some c)(f:gi)(d:Nat):cellAt (da b a f) d=if d=a then some ⟨c.addr,f,c.fr⟩else cellAt b d:=by
 induction b generalizing a d with
 |nil=>simp[cellAt]at e
 |cons i b h=>
  cases a with
  |zero=>
   simp only[cellAt,List.getElem?_cons_zero,Option.some.injEq]at e;subst e;cases d<;>simp[da,cellAt]
  |succ a=>
   have g:cellAt b a=some c:=by simpa[cellAt]using e
   cases d with
   |zero=>simp[da,cellAt]
   |succ d=>simpa[da,cellAt]using h g d
theorem lX:∀{m:uh} {b:Wy cK} {os:uk} {l g:Wy cK} {o:Wy g8},collect m b g=some o->(∀e∈o,e.ok)->(addrs l).Nodup->
  (∀h c,cellAt g h=some c->∃j,cellAt l h=some j/\j.fr=c.fr/\j.addr=c.addr)->os.length=b.length->
  ∀a∈ec m os l,(a∈l/\a.addr∉addrs b)\/(∃i∈b.zip os,a.addr=i.1.addr/\a.obj=i.2/\a.fr=i.1.fr)
 |[],[],os,l,g,_,_,_,_,_,_=>λa f=>by
  simp only[ec]at f;exact .inl ⟨f,by simp[addrs]⟩
 |[],_::_,_,_,_,_,d,_,_,_,_=>by simp[collect]at d
 |_::_,[],_,_,_,_,d,_,_,_,_=>by simp[collect]at d
 |k::m,h::b,[],l,g,_,_,_,_,_,r=>by simp at r
 |k::m,h::b,C::os,l,g,o,d,O,A,z,r=>by
  obtain⟨c,F,H,R,J,Q,e1,e2,e3,Y⟩:=io d O;obtain⟨j,q,I,w⟩:=z k c H;intro a f;rw[ec]at f;have N:=lX (os:=os) (l:=da l k C) J Q (by rw[gr];exact A) (λn D G=>by
   obtain⟨c3,p,y,x⟩:=z n D G;rw[qQ q]
   by_cases e:n=k
   ·subst e;rw[q]at p;cases p;exact⟨_,if_pos rfl,y,x⟩
   ·exact⟨c3,by rw[if_neg e];exact p,y,x⟩) (by simpa using r) a f
  rcases N with⟨t,v⟩|⟨i,L,t,v,M⟩
  ·rcases hV q a t with e|⟨T,n⟩
   ·refine .inr ⟨(h,C),by simp, ?_, ?_, ?_⟩
    ·rw[e];exact w.trans e1
    ·rw[e]
    ·rw[e];exact I.trans e2
   ·refine .inl ⟨T,λs=> ?_⟩
    unfold addrs at s;rw[List.map_cons]at s;rcases t6 s with e|e
    ·exact n (e.trans (w.trans e1).symm) A
    ·exact v e
  ·exact .inr ⟨i,by rw[List.zip_cons_cons];exact .tail _ L,t,v,M⟩
variable {b:Wy (Nat×WI)} {c:Nat×WI}
theorem hK{e:Wy (Nat×WI)}(f:dR (a::W) (c::e) b=some d)(j:∀g∈d,g.ok):
  ∃h,b[a]?=some c/\s7 a W=false/\dR W e b=some h/\(∀g∈h,g.ok):=by
 simp only[dR]at f;split at f
 ·rename_i i l;split at f
  ·cases f
  ·rename_i k;split at f
   ·rename_i h n;cases f;have e1:i.1=c.1:=j _ (.head _);have e2:i.2=c.2:=j _ (.tail _ (.head _));have:i=c:=Prod.ext e1 e2;exact⟨h,this▸l,k,n,λg m=>j g (.tail _ (.tail _ m))⟩
   ·cases f
 ·cases f
theorem gK:∀{g:uh} {f c:Wy (Nat×WI)} {b:Wy g8},dR g f c=some b->(∀e∈b,e.ok)->∀h∈f,∃d∈g,c[d]?=some h
 |[],[],_,_,_,_=>λh l=>by cases l
 |[],_::_,_,_,a,_=>by simp[dR]at a
 |_::_,[],_,_,a,_=>by simp[dR]at a
 |d::g,h::f,c,b,a,n=>by
  obtain⟨s,i,t,j,o⟩:=hK a n;intro r m;rcases t6 m with e|e
  ·subst e;exact⟨d,.head _,i⟩
  ·obtain⟨p,k,q⟩:=gK j o r e;exact⟨p,.tail _ k,q⟩
theorem va:∀{l:Wy (Nat×WI)},(eg l).Nodup->∀{p q:Nat} {c b:Nat×WI},l[p]?=some c->l[q]?=some b->c.1=b.1->p=q
 |[],_,_,_,_,_,k,_,_=>by simp at k
 |a::l,e,p,q,c,b,h,d,g=>by
  simp only[eg,List.map_cons,List.nodup_cons]at e;cases p with
  |zero=>
   simp only[List.getElem?_cons_zero,Option.some.injEq]at h;cases q with
   |zero=>rfl
   |succ q=>
    have i:l[q]?=some b:=by simpa using d
    have:=t8 (f:=Prod.fst) (t9 i);rw[<-g,<-h]at this;exact absurd this e.1
  |succ p=>
   have j:l[p]?=some c:=by simpa using h
   cases q with
   |zero=>
    simp only[List.getElem?_cons_zero,Option.some.injEq]at d;have:=t8 (f:=Prod.fst) (t9 j);rw[g,<-d]at this;exact absurd this e.1
   |succ q=>
    have i:l[q]?=some b:=by simpa using d
    rw[va (l:=l) e.2 (p:=p) (q:=q) j i g]
theorem i6:∀{j:uh} {e d:Wy (Nat×WI)} {c:Wy g8},dR j e d=some c->(∀b∈c,b.ok)->(eg d).Nodup->(eg e).Nodup
 |[],[],_,_,_,_,_=>by simp[eg]
 |[],_::_,_,_,a,_,_=>by simp[dR]at a
 |_::_,[],_,_,a,_,_=>by simp[dR]at a
 |q::j,v::e,d,c,a,p,h=>by
  obtain⟨t,k,g,f,i⟩:=hK a p;unfold eg;rw[List.map_cons];refine List.nodup_cons.mpr ⟨λm=> ?_,i6 f i h⟩
  obtain⟨s,o,b⟩:=ua m;obtain⟨r,n,l⟩:=gK f i s o;have:q=r:=va h k l b.symm;rw[this,mX n]at g;cases g
theorem i7:∀(a:Wy (Nat×WI)) (d:Nat) (b:WI),eg (il a d b)=eg a
 |[],_,_=>rfl
 |c::a,0,b=>rfl
 |c::a,d+1,b=>congrArg (c.1:: ·) (i7 a d b)
theorem ip:∀(c:uh) (b:Wy WI) (a:Wy (Nat×WI)),eg (dU c b a)=eg a
 |[],_,_=>by simp[dU]
 |_::_,[],_=>by simp[dU]
 |e::c,d::b,a=>by rw[dU,ip c b,i7]
theorem wV(e:b[a]?=some c)(f:WI)(d:Nat):(il b a f)[d]?=if d=a then some (c.1,f)else b[d]?:=by
 induction b generalizing a d with
 |nil=>simp at e
 |cons i b h=>
  cases a with
  |zero=>
   simp only[List.getElem?_cons_zero,Option.some.injEq]at e;subst e;cases d<;>simp[il]
  |succ a=>
   have g:b[a]?=some c:=by simpa using e
   cases d with
   |zero=>simp[il]
   |succ d=>simpa[il]using h g d
theorem mY:∀{c:Wy (Nat×WI)} {h:Nat} {i:WI} {d:Nat×WI},c[h]?=some d->∀f∈il c h i,f=(d.1,i)\/(f∈c/\(f.1=d.1->(eg c).Nodup->False))
 |[],_,_,_,e,_,_=>by simp at e
 |a::c,0,i,d,e,f,j=>by
  simp only[List.getElem?_cons_zero,Option.some.injEq]at e;subst e;rcases t6 j with q|q
  ·exact .inl q
  ·refine .inr ⟨.tail _ q,λg b=> ?_⟩
   simp only[eg,List.map_cons,List.nodup_cons]at b;exact b.1 (g▸t8 q)
 |a::c,h+1,i,d,e,f,j=>by
  have k:c[h]?=some d:=by simpa using e
  rcases t6 j with q|q
  ·subst q;refine .inr ⟨.head _,λg b=> ?_⟩
   simp only[eg,List.map_cons,List.nodup_cons]at b;exact b.1 (g▸t8 (t9 k))
  ·rcases mY k f q with l|⟨m,n⟩
   ·exact .inl l
   ·refine .inr ⟨.tail _ m,λg b=>n g ?_⟩
    simp only[eg,List.map_cons,List.nodup_cons]at b;exact b.2
theorem kH:∀{i:uh} {b:Wy (Nat×WI)} {os:Wy WI} {l g:Wy (Nat×WI)} {n:Wy g8},dR i b g=some n->(∀e∈n,e.ok)->(eg l).Nodup->
  (∀(c:Nat) t,g[c]?=some t->∃m,l[c]?=some m/\m.1=t.1)->os.length=b.length->
  ∀a∈dU i os l,(a∈l/\a.1∉eg b)\/(∃k∈b.zip os,a=(k.1.1,k.2))
 |[],[],os,l,g,_,_,_,_,_,_=>λa f=>by
  simp only[dU]at f;exact .inl ⟨f,by simp[eg]⟩
 |[],_::_,_,_,_,_,d,_,_,_,_=>by simp[dR]at d
 |_::_,[],_,_,_,_,d,_,_,_,_=>by simp[dR]at d
 |h::i,c::b,[],l,g,_,_,_,_,_,q=>by simp at q
 |h::i,c::b,z::os,l,g,n,d,L,y,x,q=>by
  obtain⟨O,D,Q,G,M⟩:=hK d L;obtain⟨m,p,v⟩:=x h c D;intro a f;rw[dU]at f;have J:=kH (os:=os) (l:=il l h z) G M (by rw[i7];exact y) (λj A C=>by
   obtain⟨c3,o,w⟩:=x j A C;rw[wV p]
   by_cases e:j=h
   ·subst e;rw[p]at o;cases o;exact⟨_,if_pos rfl,w⟩
   ·exact⟨c3,by rw[if_neg e];exact o,w⟩) (by simpa using q) a f
  rcases J with⟨s,I⟩|⟨k,H,s⟩
  ·rcases mY p a s with e|⟨N,j⟩
   ·refine .inr ⟨(c,z),by simp, ?_⟩;rw[e,v]
   ·refine .inl ⟨N,λr=> ?_⟩
    unfold eg at r;rw[List.map_cons]at r;rcases t6 r with e|e
    ·exact j (e.trans v.symm) y
    ·exact I e
  ·exact .inr ⟨k,by rw[List.zip_cons_cons];exact .tail _ H,s⟩
end
variable {y:AL}
section
section
variable {R0:Type} {P:WJ} {w:WG} {K:Nat->WA gi} {F:R0->St->Prop}
theorem cR.of{b:Heap}{c a:cK}(d:cR b c)(e1:c.addr=a.addr)(e2:c.fr=a.fr)(e3:a.fr=false->c.obj=a.obj)(h:kA c.obj=kA a.obj):cR b a:=by
 unfold cR at*;rw[e2]at d;cases f:a.fr with
 |true=>
  rw[f]at d;obtain⟨e,g⟩:=d;have:ea c.obj e=ea a.obj e:=by
   have:=congrArg (ea · e) h;exact this
  exact⟨e,by rw[<-e1,<-this];exact g⟩
 |false=>
  rw[f]at d;rw[<-e1,<-e3 f];exact d
theorem lY{Z:Wy Addr}{N:St}{I:WF}(f:Rep P w K Z N I):∀{e:uh} {b:ui×Wy dh},kB e N.led=some b->eM (FO I.heap) b.1 b.2
 |[],b,a=>by cases a;trivial
 |k::e,b,a=>by
  simp only[kB]at a;split at a
  ·rename_i c g;split at a
   ·rename_i m l h j i;cases a;have d:=f.cell c (t9 g);unfold cR at d;rw[h]at d;exact⟨⟨c.addr,c.obj,rfl,d,j⟩,lY f i⟩
   ·cases a
  ·cases a
theorem jB{Z:Wy Addr}{N:St}{I:WF}(b:Rep P w K Z N I):∀{h:f8} {B:jz},j5 N.led N.bl h=some B->dV I.heap B
 | .cells l,B,a=>by
  simp only[j5]at a;split at a
  ·rename_i m e;cases a;exact lY b e
  ·cases a
 | .UO k,B,a=>b.UO B (t9 a)
 | .app i j,B,a=>by
  simp only[j5]at a;split at a
  ·rename_i n o f g;cases a;have c:=jB b f;have d:=jB b g;unfold dV at*;rw[Array.toList_append];exact eM.append c d
  ·cases a
theorem lZ{Z:Wy Addr}{N:St}{I:WF}(g:Rep P w K Z N I):∀{l:Wy f8} {c:Wy jz} {d:Wy g8},fH N.led N.bl l c=some d->(∀b∈d,b.ok)->∀B∈c,dV I.heap B
 |[],[],_,_,_=>λB e=>by cases e
 |[],_::_,_,a,_=>by simp[fH]at a
 |_::_,[],_,a,_=>by simp[fH]at a
 |s1::o,h::c,d,a,f=>by
  simp only[fH]at a;split at a
  ·rename_i m n k j;cases a;have b:m=h:=f _ (.head _);intro B e;rcases t6 e with q|q
   ·subst q;exact b▸jB g k
   ·exact lZ g j (λb i=>f b (.tail _ i)) B q
  ·cases a
variable {b d:Wy g8} {c:uh}
theorem yu{a:Wy Addr}(g:Rep P w K Z N I){E:mw}(o:collect c E.pre N.led=some b)(p:dR W E.UR N.gl=some d){f:Wy f8}{e:Wy g8}(v:fH N.led N.bl f E.UX=some e)
 (q:∀h∈b,h.ok)(n:∀h∈d,h.ok)(s:∀h∈e,h.ok)(x:∀r∈a,r∈Z):d7 K E a I:=by
 refine⟨λi m=> ?_,jS o q g.nd,λi m=> ?_,i6 p n g.U6,lZ g v s⟩
 ·obtain⟨A,_,j,k,e1,e2,e3,t⟩:=hv o q i m;have l:=t9 k;exact⟨(g.cell j l).of e1 e2 e3 t,e1▸g.nk j l,λy z=>g.nf j l (e2.trans y) (e1▸x _ z)⟩
 ·obtain⟨A,_,k⟩:=gK p n i m;exact g.gen i (t9 k)
theorem vb{st1:St}{s1:WF}(m:Rep P w K Z N I){E:mw}{a:SL}
 (p:collect c E.pre N.led=some b)(a5:dR W E.UR N.gl=some d)(a7:∀f∈b,f.ok)(a0:∀f∈d,f.ok)(g:eh E Z y a I s1)
 (a4:∀L∈Z,K L=none/\∃k,I.heap.get? L=some k)
 (C:st1.led=E.new y a++ec c (E.post y a) N.led)(M:st1.gl=E.UW y a++dU W (E.UQ y a) N.gl)
 (ai:∀V∈st1.use,∀e R Z,ct P w K (V.spec e R Z))(aj:∀V∈st1.UN,∀e R Z,gb P w K (V.seg e R Z))(ak:st1.bl=E.US y a++N.bl):
  Rep P w K Z st1 s1/\cU Z N I st1 s1:=by
 have X:=hv p a7;have ag:=gK a5 a0;have a8:=lX (os:=E.post y a) (l:=N.led) p a7 m.nd (λq e h=>⟨e,h,rfl,rfl⟩) g.len
 have ah:=kH (os:=E.UQ y a) (l:=N.gl) a5 a0 m.U6 (λq e h=>⟨e,h,rfl⟩) g.Vi
 have F:∀e∈ec c (E.post y a) N.led,e.addr∈addrs N.led:=λe p=>by
  have:=t8 (f:=cK.addr) p;have f:=hJ c (E.post y a) N.led;unfold addrs at f;rw[f]at this;exact this
 have a1:∀e∈dU W (E.UQ y a) N.gl,e.1∈eg N.gl:=λe p=>by
  have:=t8 (f:=Prod.fst) p;have f:=ip W (E.UQ y a) N.gl;unfold eg at f;rw[f]at this;exact this
 have ao:∀j∈addrs N.led,∃k,I.heap.get? j=some k:=λj z=>by
  obtain⟨e,p,rfl⟩:=ua z;obtain⟨k,h,_⟩:=(m.cell e p).get;exact⟨k,h⟩
 have af:∀j∈eg N.gl,∃k,I.gens[j]?=some k:=λj z=>by
  obtain⟨e,p,rfl⟩:=ua z;exact⟨_,m.gen e p⟩
 have a6:∀j∈addrs E.pre,j∈addrs N.led:=λj z=>by
  obtain⟨r,s,rfl⟩:=ua z;obtain⟨_,_,e,i,aa,_⟩:=X r s;rw[<-aa];exact t8 (t9 i)
 have ae:∀j∈eg E.UR,j∈eg N.gl:=λj z=>by
  obtain⟨r,s,rfl⟩:=ua z;obtain⟨_,_,i⟩:=ag r s;exact t8 (t9 i)
 have a9:gq K s1.heap:=λv k h=>by
  rcases g.step.chg v k (m.base v k h) (λq=>by
   obtain⟨e,i,f⟩:=ua (a6 v q);have:=m.nk e i;rw[f,h]at this;cases this)with q|⟨q,_⟩
  ·exact q
  ·rw[(a4 v q).1]at h;cases h
 refine⟨⟨λe i=> ?_, ?_,λe i=> ?_,λe i a3=> ?_,a9,λr s=> ?_, ?_,g.bare,ai,aj,λB a2=> ?_⟩,⟨?_,λe i=> ?_,λr s=> ?_⟩⟩
 ·rw[C]at i;rcases ud i with q|q
  ·exact(g.new e q).1
  ·rcases a8 e q with⟨n,t⟩|⟨o,G,n,t,J⟩
   ·have D:=m.cell e n;unfold cR at D|-;cases T:e.fr with
    |true=>
     rw[T]at D;obtain⟨a,f⟩:=D;rcases g.step.chg _ _ f t with H|⟨_,ap,H⟩
     ·exact⟨a,H⟩
     ·exact⟨ap,H⟩
    |false=>
     rw[T]at D;rcases g.step.chg _ _ D t with H|⟨aq,_⟩
     ·exact H
     ·exact absurd aq (m.nf e n T)
   ·have:=g.post o G;have f:e=⟨o.1.addr,o.2,o.1.fr⟩:=by
     obtain⟨v,ar,L⟩:=e;simp only at n t J;rw[n,t,J]
    rw[f];exact this
 ·rw[C];unfold addrs;rw[List.map_append];refine List.nodup_append.mpr ⟨g.VK, ?_,λv O j Q=> ?_⟩
  ·have f:=hJ c (E.post y a) N.led;unfold addrs at f;rw[f];exact m.nd
  ·obtain⟨e,i,rfl⟩:=ua O;obtain⟨x,A,rfl⟩:=ua Q;intro f;obtain⟨k,h⟩:=ao _ (F x A);rw[<-f,(g.new e i).2]at h;cases h
 ·rw[C]at i;rcases ud i with q|q
  ·cases h:K e.addr with
   |none=>rfl
   |some k=>have:=m.base _ _ h;rw[(g.new e q).2]at this;cases this
  ·obtain⟨x,A,f⟩:=ua (F e q);rw[<-f];exact m.nk x A
 ·rw[C]at i;rcases ud i with q|q
  ·intro Y;obtain⟨_,k,h⟩:=a4 _ Y;rw[(g.new e q).2]at h;cases h
  ·rcases a8 e q with⟨n,t⟩|⟨o,G,n,t,J⟩
   ·exact m.nf e n a3
   ·have Y:o.1∈E.pre:=(List.of_mem_zip G).1;obtain⟨_,_,x,A,ab,ac,_⟩:=X o.1 Y;rw[n,<-ab];exact m.nf x (t9 A) (by rw[ac,<-J];exact a3)
 ·rw[M]at s;rcases ud s with q|q
  ·exact(g.UW r q).1
  ·rcases ah r q with⟨n,t⟩|⟨o,G,n⟩
   ·exact g.step.gens _ _ (m.gen r n) t
   ·have:=g.UQ o G;rw[n];exact this
 ·rw[M];unfold eg;rw[List.map_append];refine List.nodup_append.mpr ⟨g.Vj, ?_,λv O j Q=> ?_⟩
  ·have f:=ip W (E.UQ y a) N.gl;unfold eg at f;rw[f];exact m.U6
  ·obtain⟨e,i,rfl⟩:=ua O;obtain⟨x,A,rfl⟩:=ua Q;intro f;obtain⟨k,h⟩:=af _ (a1 x A);rw[<-f,(g.UW e i).2]at h;cases h
 ·rw[ak]at a2;rcases ud a2 with q|q
  ·exact g.US B q
  ·exact g.step.UO (m.UO B q)
 ·exact⟨λj k h al=>g.step.chg j k h (λq=>al (a6 j q)),g.step.U7,g.step.os,λb o h an=>g.step.gens b o h (λq=>an (ae b q))⟩
 ·rw[C]at i;rcases ud i with q|q
  ·exact .inr (g.new e q).2
  ·exact .inl (F e q)
 ·rw[M]at s;rcases ud s with q|q
  ·exact .inr (g.UW r q).2
  ·exact .inl (a1 r q)
end
end
variable {X:Env} {h:Nat}
section
section
variable {R0:Type} {P:WJ} {w:WG} {K:Nat->WA gi} {F:R0->St->Prop}
theorem sb{a:WA (R0×St)}(d:a=Option.none)(c:Good F a):False:=by obtain⟨e,f,b,_⟩:=c;rw[d]at b;cases b
theorem Good.sub{a:WA (R0×St)}{N:St}(c:Good F a)(e:∀b,a=some b->cw N b.2):i0 N:=by obtain⟨g,h,d,f,_⟩:=c;exact f.sub (e _ d)
variable {a:WK}
theorem fM{b:Heap}(o:eB K a b):∀c∈cC a,K c=none/\∃m,b.get? c=some m:=by obtain⟨q,k,n⟩:=o;intro c d;unfold cC at d;rw[k,Option.getD_some]at d;obtain⟨f,j,e⟩:=List.mem_filterMap.mp d;obtain⟨_,p,l,g,h,_,i⟩:=n f j;rw[g]at e;cases e;exact⟨i,l,h⟩
theorem cB{B:WK}(b:B.frames=a.frames):cC B=cC a:=by unfold cC;rw[b]
abbrev ft(P:WJ)(w:WG)(K:Nat->WA gi)(F:R0->St->Prop)(n:gj)(q:Nat):Prop:=
 ∀{g:Type} (k:Nat) (j:Cx) (m:Sem g) (e:St) (h:Except Wz g->St->WA (R0×St)),dj h->(∀c d,Good F ((iter K n ⟨P,w.params⟩ q).t k j m (e.w c d) h))->
  ∀(a:WK) (b:WF) (i:g->WF->Prop) (E:Wz->WF->Prop),oi a k j->eB K a b.heap->Rep P w K (cC a) e b->
  (∀l f s1,(∀c d,Good F (h l (f.w c d)))->Rep P w K (cC a) f s1->cU (cC a) e b f s1->(match l with| .ok o=>i o s1| .error p=>E p s1))->wpAny (model P w) a m i E b
abbrev pD(P:WJ)(w:WG)(K:Nat->WA gi)(F:R0->St->Prop)(l:gj)(m:Nat):Prop:=
 ∀(j:Nat) (i:Cx) (h:Code) (e:St) (g:WH->St->WA (R0×St)),dj g->(∀c d,Good F ((iter K l ⟨P,w.params⟩ m).c j i h (e.w c d) g))->
  ∀(a:WK) (b:WF) (R:WH->WF->Prop),MV a j i->eB K a b.heap->Rep P w K (cC a) e b->
  (∀k f s1,(∀c d,Good F (g k (f.w c d)))->Rep P w K (cC a) f s1->cU (cC a) e b f s1->R k s1)->codeAny (model P w) a h R b
theorem vc{d a c b e:Wy g8}(h:∀f∈d++(a++(c++(b++e))),f.ok):(∀f∈d,f.ok)/\(∀f∈a,f.ok)/\(∀f∈c,f.ok)/\(∀f∈b,f.ok):=
 ⟨λf g=>h f (ue _ g),λf g=>h f (uc _ (ue _ g)),λf g=>h f (uc _ (uc _ (ue _ g))),λf g=>h f (uc _ (uc _ (uc _ (ue _ g))))⟩
variable {R:WH->WF->Prop} {e:WH->St->WA (R0×St)} {st:St} {c:Code}
theorem hW{cx:Cx}{os:uh}(a1:dj e)(l:∀f g,Good F (f9 d cx c (st.w f g) os e))
 (s:MV a d cx)(M:eB K a I.heap)(p:Rep P w K (cC a) st I)
 (a0:∀t D s1,(∀f g,Good F (e t (D.w f g)))->Rep P w K (cC a) D s1->cU (cC a) st I D s1->R t s1):runC (model P w) a c R I:=by
  cases j:cx.hd with
  |some Y=>exact(sb (by simp only[f9,j]) (l st.al st.sl)).elim
  |none=>
    cases k:st.use with
    |nil=>exact(sb (by simp only[f9,j,St.w,k]) (l st.al st.sl)).elim
    |cons b H=>
      cases o:Nat.ble (b.at c st.led st.lg).dep d with
      |false=>exact(sb (by simp only[f9,j,St.w,k,o]) (l st.al st.sl)).elim
      |true=>
        cases h:yt (b.at c st.led st.lg).top cx.top with
        |none=>exact(sb (by simp only[f9,j,St.w,k,o,h]) (l st.al st.sl)).elim
        |some G=>
          cases q:collect b.pos (b.at c st.led st.lg).UM.pre st.led with
          |none=>exact(sb (by simp only[f9,j,St.w,k,o,h,gy,q]) (l st.al st.sl)).elim
          |some x=>
            cases r:dR b.Ve (b.at c st.led st.lg).UM.UR st.gl with
            |none=>exact(sb (by simp only[f9,j,St.w,k,o,h,gy,q,r]) (l st.al st.sl)).elim
            |some z=>
              cases A:fH st.led st.bl b.src (b.at c st.led st.lg).UM.UX with
              |none=>exact(sb (by simp only[f9,j,St.w,k,o,h,gy,q,r,A]) (l st.al st.sl)).elim
              |some y=>
                have J:∀i m f g,Good F (e ((b.at c st.led st.lg).res i m) (St.w ⟨(b.at c st.led st.lg).UM.new i m++ec b.pos ((b.at c st.led st.lg).UM.post i m) st.led,(b.at c st.led st.lg).UM.UW i m++dU b.Ve ((b.at c st.led st.lg).UM.UQ i m) st.gl,st.al,st.sl,os,H,st.UN,(b.at c st.led st.lg).UM.US i m++st.bl,(.c c (b.at c st.led st.lg).code::G)++(x++(z++(y++(.st i::st.lg))))⟩ f g)):=λi m f g=>by
                  have:=l (mR i f) (mR m g);simp only[f9,j,St.w,k,o,h,gy,q,r,A,ln,lr]at this;exact this
                have a6:i0 ⟨(b.at c st.led st.lg).UM.new st.al st.sl++ec b.pos ((b.at c st.led st.lg).UM.post st.al st.sl) st.led,(b.at c st.led st.lg).UM.UW st.al st.sl++dU b.Ve ((b.at c st.led st.lg).UM.UQ st.al st.sl) st.gl,st.al,st.sl,os,H,st.UN,(b.at c st.led st.lg).UM.US st.al st.sl++st.bl,(.c c (b.at c st.led st.lg).code::G)++(x++(z++(y++(.st st.al::st.lg))))⟩:=
                  (J st.al st.sl st.al st.sl).sub λi a5=>a1 _ _ _ a5
                obtain⟨T,O,Q,a7⟩:=vc a6;have Z:c=(b.at c st.led st.lg).code:=T _ (.head _);have a9:(b.at c st.led st.lg).dep<=d:=Nat.le_of_ble_eq_true o;have a8:ct P w K (b.at c st.led st.lg):=p.use b (by rw[k];exact .head _) c _ _;rw[Z];refine a8 a _ I ⟨?_,λv a3=> ?_, ?_, ?_⟩ M p.base p.bare (yu p q r A O Q a7 λ_ a2=>a2) λf g s1 V=> ?_
                · rw[s.hd,j]
                · have N:(b.at c st.led st.lg).top=some v:=a3;cases C:cx.top with
                  |none=>rw[N,C]at h;cases h
                  |some L=>
                    rw[N,C]at h;simp only[yt,Option.some.injEq]at h;have X:L=v:=T (.n L v) (by rw[<-h];exact .tail _ (.head _));exact X▸s.top _ C
                · have:=s.dep;omega
                · have:=s.U9;omega
                · obtain⟨t,W⟩:=vb (st1:=⟨(b.at c st.led st.lg).UM.new f g++ec b.pos ((b.at c st.led st.lg).UM.post f g) st.led,(b.at c st.led st.lg).UM.UW f g++dU b.Ve ((b.at c st.led st.lg).UM.UQ f g) st.gl,st.al,st.sl,os,H,st.UN,(b.at c st.led st.lg).UM.US f g++st.bl,(.c c (b.at c st.led st.lg).code::G)++(x++(z++(y++(.st f::st.lg))))⟩) p q r O Q V (fM M) rfl rfl (λY a4=>p.use Y (by rw[k];exact .tail _ a4)) p.UN rfl
                  exact a0 _ _ s1 (J f g) t W
variable {f:Cx}
theorem vd(o:dj e)(k:∀g h,Good F (qK d f c (N.w g h) W e))
 {b:WH->WF->Prop}(p:MV a d f)(n:eB K a I.heap)(q:Rep P w K (cC a) N I)
 (m:∀l j s1,(∀g h,Good F (e l (j.w g h)))->Rep P w K (cC a) j s1->cU (cC a) N I j s1->b l s1):codeAny (model P w) a c b I:=by
  cases i:jA c with
  |true=>exact(sb (by simp only[qK,i]) (k N.al N.sl)).elim
  |false=>
    rw[<-oF i];exact hW o (λg h=>by have:=k g h;simp only[qK,i]at this;exact this) p n q m
theorem yw{b:Wy Stmt}(q:dj e)(k:∀g i,Good F (qL d f b X (st.w g i) W e))
 (c:oi a d f)(p:eB K a I.heap)(r:Rep P w K (cC a) st I)
 (o:∀l j s1,(∀g i,Good F (e l (j.w g i)))->Rep P w K (cC a) j s1->cU (cC a) st I j s1->R l s1):wpAny (model P w) a (execs b X) (λn h=>R (.ok n) h) (λm h=>R (.error m) h) I:=by
  cases d with
  |zero=>exact(sb rfl (k st.al st.sl)).elim
  |succ d=>
    have:runC (model P w) a (.block b X) R I:=hW (d:=d) (cx:=f) q k ⟨c.hd,c.top,by have:=c.dep;omega,by have:=c.U9;omega⟩ p r o;exact this
theorem hL(a:gi)(b:WD (WA Wz)):hQ (ea a b)=hQ a:=rfl
variable {b:gi}
theorem mZ(a:oC b=false):hQ b=none:=by
 unfold oC at a;split at a
 ·cases a
 ·assumption
theorem wW{a:dh}(c:hQ b=some a):∃d e f,b=yp a d e f b.slots:=by
 obtain⟨k,m,l,o⟩:=b;unfold hQ at c;dsimp only at c;split at c
 ·rename_i j f;split at c
  ·rename_i n;split at c
   ·rename_i h _;split at c
    ·rename_i g d v1 e i;cases c;refine⟨d,e,f, ?_⟩;have:j= #[.bytes g d,.bytes v1 e]:=by
      apply Array.ext';rw[i]
     rw[this,h];rfl
    ·cases c
   ·cases c
  ·cases c
 ·cases c
theorem yx{j:Type}{c:gj}{a:Nat}{i:gi->Sem j}{e:Except Wz j->St->WA (R0×St)}{g:Prop}
 (H:∀(k:AL) (l:SL),Good F (match W with
   |b::p=>match N.bl[b]? with
    |some B=>match B.xs.toList,B.rows with
     |[.ref m],[n]=>(iter K c ⟨P,w.params⟩ a).t d f (i (yp n (k 0) (k 1) (k 2) (l 0))) ⟨N.led,N.gl,cy (cy (cy k)),cy l,p,N.use,N.UN,N.bl,.n m h::N.lg⟩ e
     |_,_=>none
    |none=>none
   |[]=>none))(G:Rep P w K Z N I)
 (z:∀{m:Nat} {n:dh} {p:uh} {q r o:Nat} {x:WD (WA Wz)},I.heap.get? m=some (yp n q r o x)->(∀k l,Good F ((iter K c ⟨P,w.params⟩ a).t d f (i (yp n q r o x)) (St.w ⟨N.led,N.gl,N.al,N.sl,p,N.use,N.UN,N.bl,.n m h::N.lg⟩ k l) e))->g):g:=by
 cases W with
 |nil=>exact(sb rfl (H N.al N.sl)).elim
 |cons b p=>
  cases s:N.bl[b]? with
  |none=>exact(sb (by simp only[s]) (H N.al N.sl)).elim
  |some B=>
   simp only[s]at H;have v:=G.UO B (t9 s);unfold dV at v;split at H
   ·rename_i m n C A;rw[C,A]at v;obtain⟨⟨J,D,e1,e2,e3⟩,_⟩:=v;cases e1;obtain⟨q,r,o,y⟩:=wW e3;rw[y]at e2;exact z e2 λk l=>H (cons q (cons r (cons o k))) (cons D.slots l)
   ·exact(sb rfl (H N.al N.sl)).elim
theorem wX{c:gj}{a:Nat}(ao:ft P w K F c a)(ap:pD P w K F c a):ft P w K F c (a+1):=by
  intro af q r ac b D a1 g A m V E L a5 i a7;have g:∀e f,Good F (stepT K ⟨P,w.params⟩ (iter K c ⟨P,w.params⟩ a) q r ac (b.w e f) D):=g;have t:∀{a6:Sem af} {st':St} {a9:WF},(∀e f,Good F ((iter K c ⟨P,w.params⟩ a).t q r a6 (st'.w e f) D))->Rep P w K (cC A) st' a9->cU (cC A) b m st' a9->wpAny (model P w) A a6 V E a9:=
    λj as J=>ao q r _ _ D a1 j A _ V E L (a5.UU J) as λaq Q s1 n v z=>a7 aq Q s1 n v (J.trans z)
  have Z:∀{a6:Sem af} {st':St},(∀e f,Good F ((iter K c ⟨P,w.params⟩ a).t q r a6 (st'.w e f) D))->i0 st':=λj=>by
    have:=(j b.al b.sl).sub λaC al=>(cv a).t a1 al
    exact this
  cases ac with
  |pure p=>exact x_pure (a7 (.ok p) b m g i (.refl ..))
  |raise a0=>exact x_raise (a7 (.error a0) b m g i (.refl ..))
  |rule _ k=>exact x_rule (t g i (.refl ..))
  |«at» _ k=>exact x_at (t g i (.refl ..))
  |point _ k=>exact x_point (t g i (.refl ..))
  |ask k=>exact x_ask (t g i (.refl ..))
  |fresh k=>
    refine x_fresh (t (st':=b) (λe f=>g (cons m.toks e) f) ?_ ?_)
    · exact⟨i.cell,i.nd,i.nk,i.nf,i.base,i.gen,i.U6,i.bare,i.use,i.UN,i.UO⟩
    · exact⟨⟨λW C M _=>.inl M,λW C M=>⟨C,M,.refl _⟩,rfl,λa1 aD M _=>M⟩,λd l=>.inl (t8 l),λd l=>.inl (t8 l)⟩
  |newGen d k=>
    obtain⟨y,J⟩:=u9 (c:=d) (st1:=⟨b.led,(m.gens.size,.fresh d)::b.gl,b.al,b.sl,b.UT,b.use,b.UN,b.bl,b.lg⟩) i rfl rfl rfl rfl;exact ci (m:=newGen d) (f:=k) (wpAny_newGen (t (st':=⟨b.led,(m.gens.size,.fresh d)::b.gl,b.al,b.sl,b.UT,b.use,b.UN,b.bl,b.lg⟩) (λe f=>g (cons m.gens.size e) f) y J))
  |handled ar k=>
    cases ar with
    |true=>exact(sb rfl (g b.al b.sl)).elim
    |false=>exact x_handled (by rw[L.hd];exact t g i (.refl ..))
  |load p R k=>
    rcases h:b.UT with _|⟨_|I,os⟩
    · exact(sb (by simp only[stepT,St.w,h]) (g b.al b.sl)).elim
    · cases T:K p with
      |none=>exact(sb (by simp only[stepT,St.w,h,T]) (g b.al b.sl)).elim
      |some C=>
        have j:∀e f,Good F ((iter K c ⟨P,w.params⟩ a).t q r (k C) (St.w {b with UT:=os} e f) D):=λe f=>by
          have:=g e f;simp only[stepT,St.w,h,T]at this;exact this
        exact x_load (i.base _ _ T) (t j (i.same rfl rfl rfl rfl) (.same m rfl rfl))
    · cases l:cellAt b.led I with
      |none=>
        exact yx (H:=λe f=>by have:=g e f;simp only[stepT,St.w,h,l]at this;exact this) i λ{ah y os az aA av ay} X j=>by
          have H:ah=p:=(Z j) _ (.head _);exact x_load (H▸X) (t j (i.same rfl rfl rfl rfl) (.same m rfl rfl))
      |some d=>
        have x:=i.cell d (t9 l);cases o:d.fr with
        |true=>
          unfold cR at x;rw[o]at x;obtain⟨G,X⟩:=x;have j:∀e f,Good F ((iter K c ⟨P,w.params⟩ a).t q r (k (ea d.obj G)) (St.w ⟨b.led,b.gl,b.al,b.sl,os,b.use,b.UN,b.bl,.n d.addr p::b.lg⟩ e f) D):=λe f=>by
            have:=g e (cons G f);simp only[stepT,St.w,h,l,o]at this;exact this
          have H:d.addr=p:=(Z j) _ (.head _);exact x_load (H▸X) (t j (i.same rfl rfl rfl rfl) (.same m rfl rfl))
        |false=>
          unfold cR at x;rw[o]at x;have j:∀e f,Good F ((iter K c ⟨P,w.params⟩ a).t q r (k d.obj) (St.w ⟨b.led,b.gl,b.al,b.sl,os,b.use,b.UN,b.bl,.n d.addr p::b.lg⟩ e f) D):=λe f=>by
            have:=g e f;simp only[stepT,St.w,h,l,o]at this;exact this
          have H:d.addr=p:=(Z j) _ (.head _);exact x_load (H▸x) (t j (i.same rfl rfl rfl rfl) (.same m rfl rfl))
  |loadIfAlive p k=>
    have alive:∀{C:gi},m.heap.get? p=some C->wpAny (model P w) A (k (some C)) V E m->wpAny (model P w) A (.loadIfAlive p k) V E m:=λh M ae ab an=>by
      have:=M ae ab an;show Sem.wp (model P w) ae (k (m.heap.get? p)) _ _ ab m;rw[h];exact this
    rcases h:b.UT with _|⟨_|I,os⟩
    · exact(sb (by simp only[stepT,St.w,h]) (g b.al b.sl)).elim
    · cases T:K p with
      |none=>exact(sb (by simp only[stepT,St.w,h,T]) (g b.al b.sl)).elim
      |some C=>
        have j:∀e f,Good F ((iter K c ⟨P,w.params⟩ a).t q r (k (some C)) (St.w {b with UT:=os} e f) D):=λe f=>by
          have:=g e f;simp only[stepT,St.w,h,T]at this;exact this
        exact alive (i.base _ _ T) (t j (i.same rfl rfl rfl rfl) (.same m rfl rfl))
    · cases l:cellAt b.led I with
      |none=>exact(sb (by simp only[stepT,St.w,h,l]) (g b.al b.sl)).elim
      |some d=>
        have x:=i.cell d (t9 l);cases o:d.fr with
        |true=>exact(sb (by simp only[stepT,St.w,h,l,o]) (g b.al b.sl)).elim
        |false=>
          unfold cR at x;rw[o]at x;have j:∀e f,Good F ((iter K c ⟨P,w.params⟩ a).t q r (k (some d.obj)) (St.w ⟨b.led,b.gl,b.al,b.sl,os,b.use,b.UN,b.bl,.n d.addr p::b.lg⟩ e f) D):=λe f=>by
            have:=g e f;simp only[stepT,St.w,h,l,o]at this;exact this
          have H:d.addr=p:=(Z j) _ (.head _);exact alive (H▸x) (t j (i.same rfl rfl rfl rfl) (.same m rfl rfl))
  |update p R s k=>
    rcases h:b.UT with _|⟨_|I,os⟩
    · exact(sb (by simp only[stepT,St.w,h]) (g b.al b.sl)).elim
    · exact(sb (by simp only[stepT,St.w,h]) (g b.al b.sl)).elim
    · cases l:cellAt b.led I with
      |none=>exact(sb (by simp only[stepT,St.w,h,l]) (g b.al b.sl)).elim
      |some d=>
        have x:=i.cell d (t9 l);cases o:d.fr with
        |true=>
          unfold cR at x;rw[o]at x;obtain⟨G,X⟩:=x;cases n:(s (ea d.obj G)).isFreed with
          |true=>exact(sb (by simp only[stepT,St.w,h,l,o,cons,n]) (g b.al (cons G b.sl))).elim
          |false=>
            cases v:ew d.obj with
            |false=>exact(sb (by simp only[stepT,St.w,h,l,o,cons,n,v]) (g b.al (cons G b.sl))).elim
            |true=>
              cases z:ew (s (ea d.obj G))with
              |false=>exact(sb (by simp only[stepT,St.w,h,l,o,cons,n,v,z]) (g b.al (cons G b.sl))).elim
              |true=>
               cases N:oC d.obj with
               |true=>exact(sb (by simp only[stepT,St.w,h,l,o,cons,n,v,z,N]) (g b.al (cons G b.sl))).elim
               |false=>
                have j:∀e f,Good F ((iter K c ⟨P,w.params⟩ a).t q r (k ()) (St.w ⟨da b.led I (s (ea d.obj G)),b.gl,b.al,b.sl,os,b.use,b.UN,b.bl,.n d.addr p::b.lg⟩ e f) D):=λe f=>by
                  have:=g e (cons G f);simp only[stepT,St.w,h,l,o,cons,n,v,z,N]at this;exact this
                have H:d.addr=p:=(Z j) _ (.head _);subst H;obtain⟨y,J⟩:=gm (f:=s) (o':=s (ea d.obj G)) (st1:=⟨da b.led I (s (ea d.obj G)),b.gl,b.al,b.sl,os,b.use,b.UN,b.bl,.n d.addr d.addr::b.lg⟩) i l X n (λM a0=>by unfold cR;rw[o];exact⟨_,a0⟩) ⟨λ_=>z,λy a2=>by rw[hL,mZ N]at a2;cases a2⟩ rfl rfl rfl rfl
                exact ci (m:=updatePart d.addr R s) (f:=k) (wpAny_updatePart X (t j y J))
        |false=>
          unfold cR at x;rw[o]at x;cases n:(s d.obj).isFreed with
          |true=>exact(sb (by simp only[stepT,St.w,h,l,o,n]) (g b.al b.sl)).elim
          |false=>
           cases N:oC d.obj with
           |true=>exact(sb (by cases v:ew d.obj<;>cases z:ew (s d.obj)<;>simp only[stepT,St.w,h,l,o,n,v,z,N]) (g b.al b.sl)).elim
           |false=>
            have a3:(ew d.obj=true->ew (s d.obj)=true)->(∀e f,Good F ((iter K c ⟨P,w.params⟩ a).t q r (k ()) (St.w ⟨da b.led I (s d.obj),b.gl,b.al,b.sl,os,b.use,b.UN,b.bl,.n d.addr p::b.lg⟩ e f) D))->wpAny (model P w) A (.update p R s k) V E m:=λak j=>by
              have H:d.addr=p:=(Z j) _ (.head _);subst H;obtain⟨y,J⟩:=gm (f:=s) (o':=s d.obj) (st1:=⟨da b.led I (s d.obj),b.gl,b.al,b.sl,os,b.use,b.UN,b.bl,.n d.addr d.addr::b.lg⟩) i l x n (λM a0=>by unfold cR;rw[o];exact a0) ⟨ak,λy a2=>by rw[mZ N]at a2;cases a2⟩ rfl rfl rfl rfl
              exact ci (m:=updatePart d.addr R s) (f:=k) (wpAny_updatePart x (t j y J))
            cases v:ew d.obj with
            |false=>
              refine a3 (λR=>by rw[v]at R;cases R) λe f=> ?_
              have:=g e f;simp only[stepT,St.w,h,l,o,n,v,N]at this;exact this
            |true=>
              cases z:ew (s d.obj)with
              |false=>exact(sb (by simp only[stepT,St.w,h,l,o,n,v,z,N]) (g b.al b.sl)).elim
              |true=>
                refine a3 (λ_=>z) λe f=> ?_
                have:=g e f;simp only[stepT,St.w,h,l,o,n,v,z,N]at this;exact this
  |alloc C k=>
    cases n:C.isFreed with
    |true=>exact(sb (by simp only[stepT,St.w,n]) (g b.al b.sl)).elim
    |false=>
      have a3:∀W os,(∀e f,Good F ((iter K c ⟨P,w.params⟩ a).t q r (k m.heap.objs.size) (St.w ⟨⟨m.heap.objs.size,C,W⟩::b.led,b.gl,b.al,b.sl,os,b.use,b.UN,b.bl,b.lg⟩ e f) D))->wpAny (model P w) A (.alloc C k) V E m:=λW os j=>by
        obtain⟨y,J⟩:=kG (o:=C) (b:=W) (st1:=⟨⟨m.heap.objs.size,C,W⟩::b.led,b.gl,b.al,b.sl,os,b.use,b.UN,b.bl,b.lg⟩) i (λs o=>(fM a5 s o).2) n rfl rfl rfl rfl
        exact ci (m:=PySem.alloc C) (f:=k) (wpAny_alloc (t j y J))
      rcases h:b.UT with _|⟨_|_|I,os⟩
      · exact(sb (by simp only[stepT,St.w,n,h]) (g b.al b.sl)).elim
      · exact a3 false os λe f=>by
          have:=g (cons m.heap.objs.size e) f;simp only[stepT,St.w,n,h]at this;exact this
      · exact a3 true os λe f=>by
          have:=g (cons m.heap.objs.size e) f;simp only[stepT,St.w,n,h]at this;exact this
      · exact(sb (by simp only[stepT,St.w,n,h]) (g b.al b.sl)).elim
  |call d O aw ax k=>
    cases q with
    |zero=>exact(sb (by simp only[stepT]) (g b.al b.sl)).elim
    |succ q=>
      cases Y:okMark O with
      |false=>exact(sb (by simp only[stepT,Y]) (g b.al b.sl)).elim
      |true=>
        have aa:O≠some byPass:=by rintro rfl;simp[okMark,byPass]at Y
        have a4:(A.mark O).frames=A.frames:=rfl;rcases h:b.UT with _|⟨_|_|I,os⟩
        · exact(sb (by simp only[stepT,St.w,Y,h]) (g b.al b.sl)).elim
        · have j:∀e f,Good F ((iter K c ⟨P,w.params⟩ a).c q ⟨O.or r.hd,r.top⟩ d (St.w {b with UT:=os} e f) λy Q=>(iter K c ⟨P,w.params⟩ a).t (q+1) r (k y) Q D):=λe f=>by
            have:=g e f;simp only[stepT,St.w,Y,h]at this;exact this
          refine x_call (ap q ⟨O.or r.hd,r.top⟩ d _ _ (λy Q au a8=>(cv a).t a1 a8) j (A.mark O) m _ ⟨?_, ?_, ?_, ?_⟩ (a5.under a4) ?_ λy Q s1 n v z=> ?_) aa
          · show O.or A.handled=O.or r.hd;rw[L.hd]
          · intro ag aj;rw[cB a4];exact L.top ag aj
          · have:=L.dep;show A.depth+2*q+2<=900;omega
          · have:=L.U9;show A.units+12*q+12<=9000;omega
          · rw[cB a4];exact i.same rfl rfl rfl rfl
          · rw[cB a4]at v z;exact t n v (cU.trans (st1:={b with UT:=os}) (cU.same m rfl rfl) z)
        · cases O with
          |some aB=>exact(sb (by simp only[stepT,St.w,Y,h]) (g b.al b.sl)).elim
          |none=>
            have j:∀e f,Good F (qK q r d (b.w e f) os λy Q=>(iter K c ⟨P,w.params⟩ a).t (q+1) r (k y) Q D):=λe f=>by
              have:=g e f;simp only[stepT,St.w,Y,h]at this;exact this
            have ai:A.mark none=A:=rfl;refine x_call ?_ aa;rw[ai];refine vd (λy Q au a8=>(cv a).t a1 a8) j ⟨L.hd,L.top, ?_, ?_⟩ a5 i λy Q s1 n v z=>t n v z
            · have:=L.dep;omega
            · have:=L.U9;omega
        · exact(sb (by simp only[stepT,St.w,Y,h]) (g b.al b.sl)).elim
  |unsupported|finish|register|choose|os|genState|resume|«yield»|stack|fork|thread|await=>exact(sb (by simp only[stepT]) (g b.al b.sl)).elim
end
end
variable {H:ug} {D:Bool} {e:Nat}
section
section
variable {R0:Type} {P:WJ} {w:WG} {K:Nat->WA gi} {F:R0->St->Prop}
variable {a:gi}
theorem Cm(b:ew a=true):∀c,a.data≠ .fields c:=λc d=>by unfold ew at b;rw[d]at b;cases b
theorem s9{F:WK}{a:Nat}{d:Wz->WF->Prop}{E:Wz->WF->Prop}(z:eB K F I.heap)(y:X.frame=some a)(q:a∈cC F)
 (n:∀x,Heap.SlotsOnly (cC F) I.heap x->d (.ref a) {I with heap:=x}):wpAny (model P w) F (PySem.frameOf X) d E I:=by
 obtain⟨m,r,H⟩:=z;have A:a∈m.filterMap (·.frame):=by unfold cC at q;rw[r]at q;exact q
 have O:∀b:Wy Env,(∀e∈b,e∈m)->a∈b.filterMap (·.frame)->∃e i,b.dropWhile (λV=>V.frame !=X.frame)=e::i/\e.frame=some a/\∀c∈e::i,c∈b:=by
  intro b;induction b with
  |nil=>intro _ h;simp at h
  |cons g b t=>
   intro l h
   by_cases k:g.frame=some a
   ·refine⟨g,b, ?_,k,λc f=>f⟩
    rw[List.dropWhile_cons_of_neg];rw[k,y];simp
   ·have L:a∈b.filterMap (·.frame):=by
     cases s:g.frame with
     |none=>rw[List.filterMap_cons_none s]at h;exact h
     |some v=>
      rw[List.filterMap_cons_some s]at h;rcases t6 h with e|e
      ·subst e;exact absurd s k
      ·exact e
    obtain⟨e,i,o,p,j⟩:=t (λe D=>l e (.tail _ D)) L
    refine⟨e,i, ?_,p,λc f=>.tail _ (j c f)⟩
    rw[List.dropWhile_cons_of_pos]
    ·exact o
    ·rw[y];simp only[bne_iff_ne];exact k
 obtain⟨e,i,o,p,j⟩:=O m (λ_ n=>n) A
 have G:∀b:Wy Env,(∀c∈b,c∈m)->I.heap.FunFrames {} b:=by
  intro b;induction b with
  |nil=>intro _;trivial
  |cons g b t=>
   intro l;obtain⟨J,v,Q,T,Y,R,Z⟩:=H g (l g (.head _));exact⟨J,⟨v,Q,T,rfl,Y,Cm R⟩,t λc f=>l c (.tail _ f)⟩
 unfold PySem.frameOf;refine ci (wpAny_frameEnvs r ?_);rw[o];unfold frameObject;refine ci (ci (wpAny_readyFrames_fun (G _ j) λN M=>cj ?_))
 rw[p];refine cj (n N (M.mono λW C=> ?_))
 unfold cC;rw[r];obtain⟨c,f,e⟩:=List.mem_filterMap.mp C;exact List.mem_filterMap.mpr ⟨c,j c f,e⟩
theorem wY{a:Heap}(b:Rep P w K Z N I)(x:∀o∈Z,K o=none/\∃f,I.heap.get? o=some f)(d:Heap.SlotsOnly Z I.heap a):
  Rep P w K Z N {I with heap:=a}/\cU Z N I N {I with heap:=a}:=by
 refine⟨⟨λl p=> ?_,b.nd,b.nk,b.nf,λe k n=> ?_,b.gen,b.U6,b.bare,b.use,b.UN,λB v=>eM.imp (λM D ⟨e,k,c,s,t⟩=>by
  obtain⟨g,e3⟩:=d.2.2 e k s;exact⟨e,_,c,e3,(hL k g).trans t⟩) (b.UO B v)⟩,⟨⟨λh f j _=> ?_,λh f j=> ?_,rfl,λJ H r _=>r⟩,λH A=>.inl (t8 A),λL y=>.inl (t8 y)⟩⟩
 ·have i:=b.cell l p;unfold cR at i|-;cases m:l.fr with
  |true=>
   rw[m]at i;obtain⟨g,c⟩:=i;obtain⟨G,e2⟩:=d.2.2 _ _ c;exact⟨G,e2⟩
  |false=>
   rw[m]at i;exact(d.2.1 _ (b.nf l p m)).trans i
 ·refine(d.2.1 e λC=> ?_).trans (b.base e k n)
  rw[(x e C).1]at n;cases n
 ·by_cases q:h∈Z
  ·obtain⟨g,c⟩:=d.2.2 h f j;exact .inr ⟨q,g,c⟩
  ·exact .inl ((d.2.1 h q).trans j)
 ·obtain⟨g,c⟩:=d.2.2 h f j;exact⟨_,c,⟨id,λD z=>(hL f g).trans z⟩⟩
theorem qR(a:ui):restOf (a.map some).toArray=a:=by
 unfold restOf;rw[List.map_map];induction a with
 |nil=>rfl
 |cons b a c=>rw[List.map_cons];exact congrArg (b:: ·) c
theorem wZ(d:a.data= .fields H)(b:Nat)(c:Wz):(hR b c a).data= .fields (H.setIfInBounds b c):=Obj.data_mapFields d _
theorem oH(d:a.data= .fields H)(b:Nat)(c:Wz):(hR b c a).isFreed=false:=Obj.isFreed_of_fields (wZ d b c)
theorem ta(b:a.data= .fields H):hQ a=none:=by unfold hQ;rw[b]
theorem eS{b:gi}(c:a.data= .fields H):kF a b:=⟨λe=>(by rw[show ew a=false by unfold ew;rw[c]]at e;cases e),λf d=>(by rw[ta c]at d;cases d)⟩
theorem qS{F:WK}{a:Nat}{c:cK}{d:Unit->WF->Prop}{E:Wz->WF->Prop}(j:eB K F I.heap)(l:X.frame=some a)(y:a∈cC F)
 (Q:Rep P w K (cC F) N I)(z:cellAt N.led e=some c)(p:c.fr=false)(A:c.addr=f)(k:c.obj.data= .fields H)(J:1<H.size)
 (t:∀h m T s1,m=yr v a (restOf T)->Rep P w K (cC F) ⟨⟨h,m,false⟩::da N.led e (hR 1 (.ref h) c.obj),N.gl,N.al,N.sl,N.UT,N.use,N.UN,N.bl,N.lg⟩ s1->
   cU (cC F) N I ⟨⟨h,m,false⟩::da N.led e (hR 1 (.ref h) c.obj),N.gl,N.al,N.sl,N.UT,N.use,N.UN,N.bl,N.lg⟩ s1->d () s1):
  wpAny (model P w) F (do setField (.ref f) 1 (<-EntryCells.newEntry v (<-PySem.frameOf X) .none (rawInt a) .none (<-entryPlaceOf a D))) d E I:=by
 refine ci (s9 j l y λg L=> ?_)
 obtain⟨M,n⟩:=wY Q (fM j) L;refine ci (wpAny_entryPlaceOf λpl C=> ?_)
 unfold EntryCells.newEntry newFields;refine ci (wpAny_newObj_type ?_ (C.sizeOk5 _ _ _ _ _));have x:eB K F g:=j.UU n;have G:(⟨.type "traceback",none,.fields ([v,.ref a,.none,rawInt a,.none]++(if pl.isEmpty then List.replicate 6 Value.none else pl)).toArray,#[]⟩:gi)=yr v a (restOf ((if pl.isEmpty then List.replicate 6 Value.none else pl).map some).toArray):=by
  rw[qR];rfl
 obtain⟨q,r⟩:=kG (st1:=⟨⟨g.objs.size,(⟨.type "traceback",none,.fields ([v,.ref a,.none,rawInt a,.none]++(if pl.isEmpty then List.replicate 6 Value.none else pl)).toArray,#[]⟩:gi),false⟩::N.led,N.gl,N.al,N.sl,N.UT,N.use,N.UN,N.bl,N.lg⟩) M (λs l=>(fM x s l).2) (o:=(⟨.type "traceback",none,.fields ([v,.ref a,.none,rawInt a,.none]++(if pl.isEmpty then List.replicate 6 Value.none else pl)).toArray,#[]⟩:gi)) (b:=false) rfl rfl rfl rfl rfl
 have o:cellAt (⟨g.objs.size,(⟨.type "traceback",none,.fields ([v,.ref a,.none,rawInt a,.none]++(if pl.isEmpty then List.replicate 6 Value.none else pl)).toArray,#[]⟩:gi),false⟩::N.led) (e+1)=some c:=z;have i:=q.cell c (t9 o);unfold cR at i;rw[p]at i;subst A;refine wpAny_setField i k J ?_;obtain⟨O,c3⟩:=gm (f:=hR 1 (.ref g.objs.size)) (o':=hR 1 (.ref g.objs.size) c.obj) (st1:=⟨⟨g.objs.size,(⟨.type "traceback",none,.fields ([v,.ref a,.none,rawInt a,.none]++(if pl.isEmpty then List.replicate 6 Value.none else pl)).toArray,#[]⟩:gi),false⟩::da N.led e (hR 1 (.ref g.objs.size) c.obj),N.gl,N.al,N.sl,N.UT,N.use,N.UN,N.bl,N.lg⟩) q o i (oH k 1 _) (λY f=>by unfold cR;rw[p];exact f) (eS k) rfl rfl rfl rfl
 exact t _ _ _ _ G O (n.trans (r.trans c3))
end
end
variable {g:Nat}
section
section
variable {R0:Type} {P:WJ} {w:WG} {K:Nat->WA gi} {F:R0->St->Prop}
variable {d:Unit->WF->Prop} {a:WK} {b:St->WA (R0×St)}
theorem jC(a2:fK b)(i:∀l q,Good F (fg c v (N.w l q) b)){E:Wz->WF->Prop}
 (a6:eB K a I.heap)(Q:X.frame=some c)(a7:c∈cC a)(Y:Rep P w K (cC a) N I)
 (a1:∀a4 s1,(∀l q,Good F (b (a4.w l q)))->Rep P w K (cC a) a4 s1->cU (cC a) N I a4 s1->d () s1):wpAny (model P w) a (noteFrame v X) d E I:=by
 cases v with
 |ref r=>
  rcases p:N.UT with _|⟨G,z⟩
  ·exact(sb (by simp only[fg,St.w,p]) (i N.al N.sl)).elim
  ·cases g:cellAt N.led G with
   |none=>exact(sb (by simp only[fg,St.w,p,g]) (i N.al N.sl)).elim
   |some j=>
    cases k:j.fr with
    |true=>exact(sb (by simp only[fg,St.w,p,g,k]) (i N.al N.sl)).elim
    |false=>
     cases h:j.obj.data with
     |fields aa=>
      have O:=Y.cell j (t9 g);unfold cR at O;rw[k]at O;cases o:(aa[1]?:WA Wz)with
      |none=>exact(sb (by simp only[fg,St.w,p,g,k,h,o]) (i N.al N.sl)).elim
      |some ag=>
       have a8:1<aa.size:=(Array.getElem?_eq_some_iff.mp o).1;cases ag with
       |none=>
        have x:∀e H l q,Good F (b (St.w ⟨⟨e,yr .none c (restOf H),false⟩::da N.led G (hR 1 (.ref e) j.obj),N.gl,N.al,N.sl,z,N.use,N.UN,N.bl,.n j.addr r::N.lg⟩ l q)):=λe H l q=>by
         have:=i (cons e l) (cons H q);simp only[fg,St.w,p,g,k,h,o]at this;exact this
        have C:j.addr=r:=((x 0 #[] N.al N.sl).sub λv T=>a2 _ _ T) _ (.head _)
        unfold noteFrame;simp only[Q];refine ci (wpAny_field (C▸O) h o ?_);rw[if_neg (by decide)];refine qS a6 Q a7 Y g k C h a8 λe ah R s1 a0 a3 V=> ?_
        subst a0;exact a1 _ s1 (x e R) (a3.same rfl rfl rfl rfl) (cU.trans V (cU.same (st1:=⟨⟨e,yr .none c (restOf R),false⟩::da N.led G (hR 1 (.ref e) j.obj),N.gl,N.al,N.sl,z,N.use,N.UN,N.bl,.n j.addr r::N.lg⟩) s1 rfl rfl))
       |ref A=>
        rcases z with _|⟨L,z⟩
        ·exact(sb (by simp only[fg,St.w,p,g,k,h,o]) (i N.al N.sl)).elim
        ·cases s:cellAt N.led L with
         |none=>exact(sb (by simp only[fg,St.w,p,g,k,h,o,s]) (i N.al N.sl)).elim
         |some m=>
          cases y:m.fr with
          |true=>exact(sb (by simp only[fg,St.w,p,g,k,h,o,s,y]) (i N.al N.sl)).elim
          |false=>
           cases t:m.obj.data with
           |fields a9=>
            have J:=Y.cell m (t9 s);unfold cR at J;rw[y]at J;cases D:(a9[3]?:WA Wz)with
            |none=>exact(sb (by simp only[fg,St.w,p,g,k,h,o,s,y,t,D]) (i N.al N.sl)).elim
            |some a5=>
             have af:3<a9.size:=(Array.getElem?_eq_some_iff.mp D).1;have ac:(∀l q,Good F (b (St.w ⟨N.led,N.gl,N.al,N.sl,z,N.use,N.UN,N.bl,.n j.addr r:: .n m.addr A:: .v a5 (rawInt c)::N.lg⟩ l q)))->wpAny (model P w) a (noteFrame (.ref r) X) d E I:=λx=>by
              have M:=(x N.al N.sl).sub λv T=>a2 _ _ T
              have C:j.addr=r:=M _ (.head _);have W:m.addr=A:=M _ (.tail _ (.head _));have ab:a5=rawInt c:=M _ (.tail _ (.tail _ (.head _)));unfold noteFrame;simp only[Q];refine ci (wpAny_field (C▸O) h o ?_);rw[if_pos (show(Value.ref A !=Value.none)=true from by simp)];refine ci (wpAny_field (W▸J) t D ?_);rw[if_pos (by rw[ab];first|(simp;done)|exact beq_self_eq_true _)];exact cj (a1 _ I x (Y.same rfl rfl rfl rfl) (cU.same I rfl rfl))
             cases a5 with
             |none=>
              cases Z:Nat.beq G L with
              |true=>exact(sb (by simp only[fg,St.w,p,g,k,h,o,s,y,t,D,Z]) (i N.al N.sl)).elim
              |false=>
               have x:∀e H l q,Good F (b (St.w ⟨⟨e,yr (.ref A) c (restOf H),false⟩::da (da N.led L (hR 3 .none m.obj)) G (hR 1 (.ref e) j.obj),N.gl,N.al,N.sl,z,N.use,N.UN,N.bl,.n j.addr r:: .n m.addr A::N.lg⟩ l q)):=λe H l q=>by
                have:=i (cons e l) (cons H q);simp only[fg,St.w,p,g,k,h,o,s,y,t,D,Z]at this;exact this
               have M:=(x 0 #[] N.al N.sl).sub λv T=>a2 _ _ T
               have C:j.addr=r:=M _ (.head _);have W:m.addr=A:=M _ (.tail _ (.head _));unfold noteFrame;simp only[Q];refine ci (wpAny_field (C▸O) h o ?_);rw[if_pos (show(Value.ref A !=Value.none)=true from by simp)];refine ci (wpAny_field (W▸J) t D ?_);rw[if_neg (by simp[rawInt])];subst W;refine ci (wpAny_setField J t af ?_);obtain⟨ai,V⟩:=gm (f:=hR 3 .none) (o':=hR 3 .none m.obj) (st1:=⟨da N.led L (hR 3 .none m.obj),N.gl,N.al,N.sl,z,N.use,N.UN,N.bl,N.lg⟩) Y s J (oH t 3 _) (λak r=>by unfold cR;rw[y];exact r) (eS t) rfl rfl rfl rfl
               have ae:cellAt (da N.led L (hR 3 .none m.obj)) G=some j:=by
                rw[qQ s,if_neg (λaj=>by rw[aj,Nat.beq_refl]at Z;cases Z)];exact g
               refine qS (a6.UU V) Q a7 ai ae k C h a8 λe ah R s1 a0 a3 c3=> ?_
               subst a0;exact a1 _ s1 (x e R) (a3.same rfl rfl rfl rfl) ((V.trans c3).trans (cU.same (st1:=⟨⟨e,yr (.ref m.addr) c (restOf R),false⟩::da (da N.led L (hR 3 .none m.obj)) G (hR 1 (.ref e) j.obj),N.gl,N.al,N.sl,z,N.use,N.UN,N.bl,.n j.addr r:: .n m.addr m.addr::N.lg⟩) s1 rfl rfl))
             |_=>
               refine ac λl q=> ?_
               have:=i l q;simp only[fg,St.w,p,g,k,h,o,s,y,t,D]at this;exact this
           |_=>exact(sb (by simp only[fg,St.w,p,g,k,h,o,s,y,t]) (i N.al N.sl)).elim
       |_=>exact(sb (by simp only[fg,St.w,p,g,k,h,o]) (i N.al N.sl)).elim
     |_=>exact(sb (by simp only[fg,St.w,p,g,k,h]) (i N.al N.sl)).elim
 |_=>exact(sb (by simp only[fg]) (i N.al N.sl)).elim
theorem qT(D:ft P w K F .own g){e:Cx}(y:fK b)
 (r:∀k l,Good F (hS .own (iter K .own ⟨P,w.params⟩ g) f e c v (N.w k l) b)){E:Wz->WF->Prop}(ok:oi a f e)
 (n:eB K a I.heap)(C:X.frame=some c)(A:c∈cC a)(L:Rep P w K (cC a) N I)
 (x:∀i s1,(∀k l,Good F (b (i.w k l)))->Rep P w K (cC a) i s1->cU (cC a) N I i s1->d () s1):wpAny (model P w) a (leaving X v) d E I:=by
 have o:dj (λ(q:Except Wz Unit) j=>match q with| .ok _=>b j| .error _=>none):=λq j O h=>by
  dsimp only at h;split at h
  ·exact y _ _ h
  ·cases h
 unfold leaving;refine ci (jC (λi O h=>(cv g).t o h) r n C A L λi s1 z H m=> ?_)
 refine D f e (setFlight v none) i _ o z a s1 _ _ ok (n.UU m) H λG j M p J s=> ?_
 cases G with
 |ok T=>exact x j M p J (m.trans s)
 |error Q=>exact(sb rfl (p j.al j.sl)).elim
end
end
section
section
variable {R0:Type} {P:WJ} {w:WG} {K:Nat->WA gi} {F:R0->St->Prop}
abbrev BodyOk(P:WJ)(w:WG)(K:Nat->WA gi)(F:R0->St->Prop)(o:gj)(r:Nat):Prop:=
 ∀(k:Nat) (j:Cx) (n:Wy Stmt) (l:Env) (f:St) (h:Except Wz Flow->St->WA (R0×St)),dj h->(∀d e,Good F ((iter K o ⟨P,w.params⟩ r).b k j n l (f.w d e) h))->
  ∀(a:WK) (c:WF) (i:Flow->WF->Prop) (E:Wz->WF->Prop),oi a k j->eB K a c.heap->Rep P w K (cC a) f c->
  (∀m g s1,(∀d e,Good F (h m (g.w d e)))->Rep P w K (cC a) g s1->cU (cC a) f c g s1->(match m with| .ok p=>i p s1| .error q=>E q s1))->wpAny (model P w) a (execs n l) i E c
variable {b:Flow->WF->Prop} {c:Stmt} {a:Model}
theorem wpAny_execs_cons{F:WK}{d:Wy Stmt}{E:Wz->WF->Prop}
 (h:wpAny a F (exec c X) (λf e=>match f with| .next=>wpAny a F (execs d X) b E e|f=>b f e) E I):wpAny a F (execs (c::d) X) b E I:=by
 unfold execs;refine ci (wpAny_mono h (λf e g=> ?_) λ_ _ i=>i)
 cases f<;>first|exact g|exact cj g
theorem jU{F:WK}{E:Wz->WF->Prop}
 (h:wpAny a F (execs [c] X) b E I):wpAny a F (exec c X) b E I:=by
 intro f e i;have:=h f e i;unfold execs at this;rw[Sem.wp_bind']at this;refine Sem.wp_mono a f _ (λg k l d=> ?_) (λ_ _ _ j=>j) e I this
 cases g
 ·unfold execs at d
  first
   |exact d
   |(rw[Sem.wp_pure']at d;exact d)
 all_goals first
  |exact d
  |(rw[Sem.wp_pure']at d;exact d)
theorem w0{a:Nat}(a4:ft P w K F .own a)(ab:BodyOk P w K F .own a):BodyOk P w K F .own (a+1):=by
 intro j i J k c e Q s A H V E ok O a5 X;have s:∀g h,Good F (fI .own (iter K .own ⟨P,w.params⟩ a) j i J k (c.w g h) e):=s;have Z:∀o:Wy Stmt,dj (λ(n:Except Wz Flow) d=>match n with
   | .ok .next=>(iter K .own ⟨P,w.params⟩ a).b j i o k d e
   | .ok f=>e (.ok f) d
   | .error p=>e (.error p) d):=λo n d ae q=>by
  dsimp only at q;split at q
  ·exact(cv a).b Q q
  ·exact Q _ _ _ q
  ·exact Q _ _ _ q
 have a9:∀{o:Wy Stmt} {l:Except Wz Flow} {d:St} {s1:WF},(∀g h,Good F ((λ(n:Except Wz Flow) d=>match n with
   | .ok .next=>(iter K .own ⟨P,w.params⟩ a).b j i o k d e
   | .ok f=>e (.ok f) d
   | .error p=>e (.error p) d) l (d.w g h)))->Rep P w K (cC A) d s1->cU (cC A) c H d s1->
   (match l with| .ok a7=>(match a7 with| .next=>wpAny (model P w) A (execs o k) V E s1|f=>V f s1)| .error p=>E p s1):=by
  intro o l d s1 v z C;cases l with
  |error p=>exact X (.error p) d s1 v z C
  |ok f=>
   cases f with
   |next=>exact ab j i o k d e Q v A s1 V E ok (O.UU C) z λl r a6 T a2 N=>X l r a6 T a2 (C.trans N)
   |_=>exact X (.ok _) d s1 v z C
 rcases y:c.UT with _|⟨_|_|_|_|aC,G⟩
 ·exact(sb (by simp only[fI,St.w,y]) (s c.al c.sl)).elim
 ·have L:∀g h,Good F ((iter K .own ⟨P,w.params⟩ a).t j i (gj.own.ex J k) (St.w {c with UT:=G} g h) e):=λg h=>by
   have:=s g h;simp only[fI,St.w,y]at this;exact this
  exact a4 j i _ _ e Q L A H V E ok O (a5.same rfl rfl rfl rfl) λl d s1 v z C=>by
   have:=X l d s1 v z (cU.trans (st1:={c with UT:=G}) (.same H rfl rfl) C);cases l<;>exact this
 ·cases J with
  |nil=>exact(sb (by simp only[fI,St.w,y]) (s c.al c.sl)).elim
  |cons ac o=>
   refine wpAny_execs_cons (jU ?_);refine a4 j i (gj.own.ex [ac] k) {c with UT:=G} _ (Z o) (λg h=>by
    have:=s g h;simp only[fI,St.w,y]at this;exact this) A H _ _ ok O (a5.same rfl rfl rfl rfl) λl d s1 v z C=> ?_
   have:=a9 v z (cU.trans (st1:={c with UT:=G}) (.same H rfl rfl) C);cases l<;>exact this
 ·have W:(∀g h,Good F (fI .own (iter K .own ⟨P,w.params⟩ a) j i J k (c.w g h) e))->(∀g h,fI .own (iter K .own ⟨P,w.params⟩ a) j i J k (c.w g h) e=none)->wpAny (model P w) A (execs J k) V E H:=λv T=>(sb (T c.al c.sl) (v c.al c.sl)).elim
  cases I:i.top with
  |none=>exact W s λg h=>by simp only[fI,St.w,y,I]
  |some M=>
   cases Y:k.frame with
   |none=>exact W s λg h=>by simp only[fI,St.w,y,I,Y]
   |some ak=>
    cases J with
    |nil=>exact W s λg h=>by simp only[fI,St.w,y,I,Y]
    |cons ac o=>
     cases ac with
     |Try al a0 ai ap av=>
      cases a0 with
      |nil=>exact W s λg h=>by simp only[fI,St.w,y,I,Y]
      |cons a3 a0=>
       cases ap with
       |cons aA aB=>exact W s λg h=>by simp only[fI,St.w,y,I,Y]
       |nil=>
        have L:=λg h=>s g h
        simp only[fI,St.w,y,I,Y]at L;have af:dj (λ(n:Except Wz Flow) d=>match n with
          | .ok .next=>(iter K .own ⟨P,w.params⟩ a).b j i ai k d λn r=>match n with
           | .ok .next=>(iter K .own ⟨P,w.params⟩ a).b j i o k r e
           | .ok f=>e (.ok f) r
           | .error p=>e (.error p) r
          | .ok f=>e (.ok f) d
          | .error D=>hS .own (iter K .own ⟨P,w.params⟩ a) j i M D d λr=>(iter K .own ⟨P,w.params⟩ a).t j i (gj.own.hand D k (a3::a0)) r λn x=>match n with
           | .ok .next=>(iter K .own ⟨P,w.params⟩ a).b j i o k x e
           | .ok f=>e (.ok f) x
           | .error p=>e (.error p) x):=λn d ae q=>by
         dsimp only at q;split at q
         ·exact(cv a).b (Z o) q
         ·exact Q _ _ _ q
         ·exact gY (cv a) (λr az aa=>(cv a).t (Z o) aa) q
        refine wpAny_execs_cons ?_;unfold exec;refine ci (m:=standAt av) (wpAny_standAt (wpAny_tryStmt_except ?_));have ao:M=ak:=by
         have:=(L c.al c.sl).sub λD au=>(cv a).b af au
         exact this _ (.head _)
        subst ao;have as:=ok.top M I;refine ab j i al k ⟨c.led,c.gl,c.al,c.sl,G,c.use,c.UN,c.bl,.n M M::c.lg⟩ _ af L A H _ _ ok O (a5.same rfl rfl rfl rfl) λl d s1 v z C=> ?_
        have a1:cU (cC A) c H d s1:=cU.trans (st1:=⟨c.led,c.gl,c.al,c.sl,G,c.use,c.UN,c.bl,.n M M::c.lg⟩) (.same H rfl rfl) C;cases l with
        |ok f=>
         cases f with
         |next=>
          refine ab j i ai k d _ (Z o) v A s1 _ _ ok (O.UU a1) z λl r a6 T a2 N=> ?_
          have:=a9 T a2 (a1.trans N);cases l<;>exact this
         |_=>exact X (.ok _) d s1 v z a1
        |error D=>
         have a8:=O.UU a1;have aq:fK (λr=>(iter K .own ⟨P,w.params⟩ a).t j i (gj.own.hand D k (a3::a0)) r λn x=>match n with
           | .ok .next=>(iter K .own ⟨P,w.params⟩ a).b j i o k x e
           | .ok f=>e (.ok f) x
           | .error p=>e (.error p) x):=λr az aa=>(cv a).t (Z o) aa
         have ag:dj (λ(n:Except Wz Unit) r=>match n with
          | .ok _=>(iter K .own ⟨P,w.params⟩ a).t j i (gj.own.hand D k (a3::a0)) r λn x=>match n with
           | .ok .next=>(iter K .own ⟨P,w.params⟩ a).b j i o k x e
           | .ok f=>e (.ok f) x
           | .error p=>e (.error p) x
          | .error _=>none):=λn r ae q=>by
          dsimp only at q;split at q
          ·exact aq _ _ q
          ·cases q
         refine jC (λd ae q=>(cv a).t ag q) v a8 Y as z λr a6 T a2 N=> ?_
         refine a4 j i (setFlight D none) r _ ag T A a6 _ _ ok (a8.UU N) a2 λl x ay ah aw c3=> ?_
         cases l with
         |error p=>exact(sb rfl (ah x.al x.sl)).elim
         |ok aF=>
          refine a4 j i (handleBy D k (a3::a0)) x _ (Z o) ah A ay _ _ ok ((a8.UU N).UU c3) aw λl aE aD ar ax an=> ?_
          have:=a9 ar ax (a1.trans (N.trans (c3.trans an)));cases l<;>exact this
     |_=>exact W s λg h=>by simp only[fI,St.w,y,I,Y]
 ·have L:∀g h,Good F (qL j i J k (St.w {c with UT:=G} g h) G e):=λg h=>by
   have:=s g h;simp only[fI,St.w,y]at this;exact this
  refine wpAny_mono (yw (R:=λn aj=>match n with| .ok a7=>V a7 aj| .error p=>E p aj) (st:={c with UT:=G}) Q L ok O (a5.same rfl rfl rfl rfl) λl d s1 v z C=> ?_) (λ_ _ D=>D) λ_ _ D=>D
  exact X l d s1 v z (cU.trans (st1:={c with UT:=G}) (.same H rfl rfl) C)
 ·exact(sb (by simp only[fI,St.w,y]) (s c.al c.sl)).elim
end
end
section
section
variable {R0:Type} {P:WJ} {w:WG} {K:Nat->WA gi} {F:R0->St->Prop}
theorem lw:∀{l:Wy cK},(addrs l).Nodup->∀{d e:cK},d∈l->e∈l->d.addr=e.addr->d=e
 |[],_,_,_,i,_,_=>by cases i
 |c::l,g,d,e,j,k,h=>by
  simp only[addrs,List.map_cons,List.nodup_cons]at g;rcases t6 j with a|a<;>rcases t6 k with b|b
  ·rw[a,b]
  ·have:=t8 (f:=cK.addr) b;rw[<-h,a]at this;exact absurd this g.1
  ·have:=t8 (f:=cK.addr) a;rw[h,b]at this;exact absurd this g.1
  ·exact lw (l:=l) g.2 a b h
theorem oI{a:ScopeKind}(b:g9 a=true):a≠ .module:=by rintro rfl;cases b
theorem kI{st:St}{a:gi->St->WA (R0×St)}(s:dj a)(e:∀b d,Good F (hT K c (st.w b d) a))(k:Rep P w K Z st I):
  ∃h p,I.heap.get? c=some h/\(∀b d,Good F (a h (p.w b d)))/\Rep P w K Z p I/\cU Z st I p I:=by
 rcases g:st.UT with _|⟨_|v,q⟩
 ·exact(sb (by simp only[hT,St.w,g]) (e st.al st.sl)).elim
 ·cases l:K c with
  |none=>exact(sb (by simp only[hT,St.w,g,l]) (e st.al st.sl)).elim
  |some h=>
   have i:∀b d,Good F (a h (St.w {st with UT:=q} b d)):=λb d=>by
    have:=e b d;simp only[hT,St.w,g,l]at this;exact this
   exact⟨h,_,k.base _ _ l,i,k.same rfl rfl rfl rfl,cU.same I rfl rfl⟩
 ·cases j:cellAt st.led v with
  |none=>exact(sb (by simp only[hT,St.w,g,j]) (e st.al st.sl)).elim
  |some f=>
   cases o:f.fr with
   |true=>exact(sb (by simp only[hT,St.w,g,j,o]) (e st.al st.sl)).elim
   |false=>
    have i:∀b d,Good F (a f.obj (St.w ⟨st.led,st.gl,st.al,st.sl,q,st.use,st.UN,st.bl,.n f.addr c::st.lg⟩ b d)):=λb d=>by
     have:=e b d;simp only[hT,St.w,g,j,o]at this;exact this
    have r:f.addr=c:=((i st.al st.sl).sub λx t=>s _ _ _ t) _ (.head _)
    have m:=k.cell f (t9 j);unfold cR at m;rw[o]at m;exact⟨f.obj,_,r▸m,i,k.same rfl rfl rfl rfl,cU.same I rfl rfl⟩
theorem w1{b:Str}{a:St->WA (R0×St)}(t:fK a)(l:∀f h,Good F (mS K v b (N.w f h) a))(A:Rep P w K Z N I):
  ∃c,I.heap.CodeRec v b/\(∀f h,Good F (a (c.w f h)))/\Rep P w K Z c I/\cU Z N I c I:=by
 cases v with
 |ref q=>
  have x:dj (λ(i:gi) c=>match i.data with
   | .fields j=>match j.toList with
    |_:: .str k _::_=>match PySem.W.Fast.sDec k b with
     | .isTrue _=>a c
     | .isFalse _=>none
    |_=>none
   |_=>none):=λi c J d=>by
   dsimp only at d;split at d
   ·split at d
    ·split at d
     ·exact t _ _ d
     ·cases d
    ·cases d
   ·cases d
  obtain⟨i,c,y,n,z,r⟩:=kI x l A;have g:=n c.al c.sl;obtain⟨D,G,s,H⟩:=i;cases s with
  |fields j=>
   cases e:j.toList with
   |nil=>exact(sb (by simp only[e]) g).elim
   |cons v0 p=>
    cases p with
    |nil=>exact(sb (by simp only[e]) g).elim
    |cons v1 p=>
     cases v1 with
     |str k C=>
      cases o:PySem.W.Fast.sDec k b with
      |isFalse m=>exact(sb (by simp only[e,o]) g).elim
      |isTrue m=>
       refine⟨c,⟨q,_,j,C,rfl,y,rfl, ?_⟩,λf h=> ?_,z,r⟩
       ·rw[<-Array.getElem?_toList,e,m];rfl
       ·have:=n f h;simp only[e,o]at this;exact this
     |_=>exact(sb (by simp only[e]) g).elim
  |_=>exact(sb rfl g).elim
 |_=>exact(sb (by simp only[mS]) (l N.al N.sl)).elim
theorem ve{F:WK}{b:Heap}(d:eB K F b)(e:X.frame=some a):cC (F.deeper X)=a::cC F:=by
 obtain⟨f,c,g⟩:=d;have:(F.deeper X).frames=some (X::f):=by show F.frames.map _=_;rw[c];rfl
 unfold cC;rw[this,c];simp[e]
variable {c:cK}
theorem vf{F:WK}(h:eB K F I.heap)(i:X.frame=some a)(k:g9 X.scope.kind=true)(f:Rep P w K (cC F) N I)(e:c∈N.led)(m:ew c.obj=true)(d:c.addr=a):
  eB K (F.deeper X) I.heap:=by
 obtain⟨p,n,j⟩:=(f.cell c e).get;obtain⟨o,l,q⟩:=h;refine⟨X::o,by show F.frames.map _=_;rw[l];rfl,λg b=> ?_⟩
 rcases t6 b with rfl|b
 ·exact⟨oI k,a,p,i,d▸n,by rw[wU j];exact m,d▸f.nk c e⟩
 ·exact q g b
theorem qU(b:Rep P w K Z N I)(i:c∈N.led)(h:c.fr=true)(g:c.addr=a):Rep P w K (a::Z) N I:=by
 refine⟨b.cell,b.nd,b.nk,λf e d j=> ?_,b.base,b.gen,b.U6,b.bare,b.use,b.UN,b.UO⟩
 rcases t6 j with q|q
 ·have:f=c:=lw b.nd e i (q.trans g.symm);rw[this,h]at d;cases d
 ·exact b.nf f e d q
theorem qV(b:Rep P w K (a::Z) N I):Rep P w K Z N I:=⟨b.cell,b.nd,b.nk,λf d e c=>b.nf f d e (.tail _ c),b.base,b.gen,b.U6,b.bare,b.use,b.UN,b.UO⟩
theorem oJ{s1:WF}(f:c∈N.led)(e:c.addr=a)(c3:cU (a::Z) N I O s1):cU Z N I O s1:=by
 refine⟨c3.step.weaken (λd b=> ?_) (λd b=>b),c3.led,c3.gl⟩
 rcases t6 b with q|q
 ·exact .inr (q▸e▸t8 f)
 ·exact .inl q
variable {a:FuncData}
theorem Cn{b:Bd}(c:u8 a=some b):a.scope.isCoroutine=false/\((∃d,b= .st d/\a.scope.isGenerator=false/\a.body= .stmts d)\/(∃f,b= .ex f/\a.scope.isGenerator=false/\a.body= .expr f)\/(∃d,b= .gen d/\a.scope.isGenerator=true/\a.body= .stmts d)):=by
 unfold u8 at c;split at c
 ·cases c
 ·rename_i h;refine⟨h, ?_⟩;split at c
  ·rename_i g;split at c
   ·rename_i d e;cases c;exact .inr (.inr ⟨d,rfl,g,e⟩)
   ·cases c
  ·rename_i g;split at c
   ·rename_i d e;cases c;exact .inl ⟨d,rfl,g,e⟩
   ·rename_i f e;cases c;exact .inr (.inl ⟨f,rfl,g,e⟩)
variable {b:WH->WF->Prop}
theorem w2{F:WK}{c:Addr}{d:Args}{f:gi}{e:Expr}(s:F.depth<recursionLimit)
 (r:I.heap.get? c=some f)
 (p:f.data= .func a)(o:a.scope.isCoroutine=false)(q:a.scope.isGenerator=false)(m:a.body= .expr e)(n:I.heap.CodeRec a.code a.qualname)
 (l:wpAny (model P w) F.in1 (bindArgs a d) (λj t=>
   wpAny (model P w) F.in1 (newFunctionEnv a.scope a.globals a.closure j (a.qualname++ ".<locals>.") (some c) a.code none a.builtins)
    (λk i=>i.heap.NoLimit/\codeAny (model P w) F (.expr e k) b i) (λg h=>b (.error g) h) t) (λg h=>b (.error g) h) I):
  codeAny (model P w) F (.call (.ref c) d) b I:=kla_callFunE s r p o q m n l
theorem w3{F:WK}{a:Expr}
 (g:wpAny (model P w) (F.deeper X) (eval a X) (λh c=>b (.ok (.ret h)) c)
   (λe c=>wpAny (model P w) (F.deeper X) (leaving X e) (λ_ d=>b (.error e) d) (λf d=>b (.error f) d) c) I):
  codeAny (model P w) F (.expr a X) b I:=kla_codeExpr g
end
end
section
section
variable {R0:Type} {P:WJ} {w:WG} {K:Nat->WA gi} {F:R0->St->Prop}
variable {a:wM}
theorem Co{h:Stmt}(b:Cj h=some a):h= .Expr (.Call (.Attribute a.o a.name a.apos) [] [] a.pos) a.p2:=by
 unfold Cj at b;split at b
 ·split at b
  ·rename_i c _;cases b;subst c;rfl
  ·cases b
 ·cases b
theorem oK{b:Type}{a:Str}:∀{d:Wy (Str×b)},px a d=true->(d.lookup a).isSome=false
 |[],_=>rfl
 |(e,h)::d,c=>by
  unfold px at c;split at c
  ·cases c
  ·rename_i f _;have g:(a==e)=false:=by simpa using f
   rw[List.lookup_cons,g];exact oK c
variable {b:Str}
theorem w4{a:Setting}(c:mT a b=true):(a.program.main.file==b)=true/\(a.program.main.scope.names.lookup (Str.ofString "super")).isSome=false:=by
 unfold mT at c;split at c
 ·rename_i d _;exact⟨by rw[d];exact beq_self_eq_true _,oK c⟩
 ·cases c
theorem td{a:Str}(b:my .own X a=true):X.kindOf (Str.ofString "super")=some .globalImplicit/\X.kindOf (Str.ofString "__class__")=some .free/\interactive X=false/\(a==Str.ofString "__class__")=false:=by
 unfold my at b;split at b
 ·rename_i f c d e _;exact⟨c,d,e,by simpa using f⟩
 ·cases b
theorem tg{a:FuncData}(d:mz a=some b):∃c:Arg,(a.params.posonlyargs++a.params.args).head?=some c/\c.arg=b:=by
 unfold mz at d;split at d
 ·rename_i c f e;cases d;exact⟨c,by rw[e];rfl,rfl⟩
 ·cases d
theorem yy{b:gi}{a:Str}(c:qM b=some a):∃d e,b.data= .fields d/\d[2]?=some (.str a e):=by
 unfold qM at c;split at c
 ·rename_i d f;split at c
  ·rename_i v0 v1 g e h e2;cases c;exact⟨d,e,f,by rw[<-Array.getElem?_toList,e2];rfl⟩
  ·cases c
 ·cases c
variable {i:Flow->WF->Prop} {h:WF} {f:WK} {j:Wy Stmt} {d:Cx}
theorem Cp(I:ft P w K F .own c){g:St->WA (R0×St)}(aC:fK g)
 (G:∀R a4,Good F (wN K .own ⟨P,w.params⟩ (iter K .own ⟨P,w.params⟩ c) e d a X (N.w R a4) g)){E:Wz->WF->Prop}(ok:oi f e d)(H:eB K f h.heap)(aX:Rep P w K (cC f) N h)
 (aB:∀n s1,(∀R a4,Good F (g (n.w R a4)))->Rep P w K (cC f) n s1->cU (cC f) N h n s1->i .next s1):
  PySem.wpAt (model P w) f (.func j X) (exec (.Expr (.Call (.Attribute a.o a.name a.apos) [] [] a.pos) a.p2) X) i E h:=by
 unfold wN at G;cases L:X.func with
 |none=>exact(sb (by simp only[L]) (G N.al N.sl)).elim
 |some b7=>
  cases T:X.code with
  |ref b6=>
   cases a2:my .own X a.name with
   |false=>exact(sb (by simp only[L,T,a2]) (G N.al N.sl)).elim
   |true=>
    simp only[L,T,a2]at G;obtain⟨aJ,aI,hint,aE⟩:=td a2;have ai:dj (R0:=R0) (λ(b:Except Wz Wz) m=>match b with
      | .ok _=>g m
      | .error _=>none):=λb n D k=>by
     try dsimp only at k
     split at k
     ·exact aC _ _ k
     ·cases k
    have ah:dj (R0:=R0) (λ(b:Except Wz Wz) q=>match b with
      | .ok r=>(iter K .own ⟨P,w.params⟩ c).t e d (gj.own.Vx a.o a.name a.apos a.pos X r) q λb m=>match b with
       | .ok _=>g m
       | .error _=>none
      | .error _=>none):=λb n D k=>by
     try dsimp only at k
     split at k
     ·exact(cv c).t ai k
     ·cases k
    have ag:∀l self:Wz,dj (R0:=R0) (λ(b:Except Wz Bool) p=>match b with
      | .ok true=>(iter K .own ⟨P,w.params⟩ c).t e d (gj.own.Vl (.type "super") [l,self]) p λb q=>match b with
       | .ok r=>(iter K .own ⟨P,w.params⟩ c).t e d (gj.own.Vx a.o a.name a.apos a.pos X r) q λb m=>match b with
        | .ok _=>g m
        | .error _=>none
       | .error _=>none
      |_=>none):=λl self b n D k=>by
     try dsimp only at k
     split at k
     ·exact(cv c).t ah k
     ·cases k
    have af:∀l:Wz,dj (R0:=R0) (λ(b:Except Wz Wz) y=>match b with
      | .ok self=>(iter K .own ⟨P,w.params⟩ c).t e d (gj.own.VH l) y λb p=>match b with
       | .ok true=>(iter K .own ⟨P,w.params⟩ c).t e d (gj.own.Vl (.type "super") [l,self]) p λb q=>match b with
        | .ok r=>(iter K .own ⟨P,w.params⟩ c).t e d (gj.own.Vx a.o a.name a.apos a.pos X r) q λb m=>match b with
         | .ok _=>g m
         | .error _=>none
        | .error _=>none
       |_=>none
      | .error _=>none):=λl b n D k=>by
     try dsimp only at k
     split at k
     ·exact(cv c).t (ag l _) k
     ·cases k
    have ae:∀s:Str,dj (R0:=R0) (λ(b:Except Wz Wz) z=>match b with
      | .ok l=>(iter K .own ⟨P,w.params⟩ c).t e d (gj.own.name X s) z λb y=>match b with
       | .ok self=>(iter K .own ⟨P,w.params⟩ c).t e d (gj.own.VH l) y λb p=>match b with
        | .ok true=>(iter K .own ⟨P,w.params⟩ c).t e d (gj.own.Vl (.type "super") [l,self]) p λb q=>match b with
         | .ok r=>(iter K .own ⟨P,w.params⟩ c).t e d (gj.own.Vx a.o a.name a.apos a.pos X r) q λb m=>match b with
          | .ok _=>g m
          | .error _=>none
         | .error _=>none
        |_=>none
       | .error _=>none
      | .error _=>none):=λs b n D k=>by
     try dsimp only at k
     split at k
     ·exact(cv c).t (af _) k
     ·cases k
    have ac:∀s:Str,dj (R0:=R0) (λ(b:Except Wz Wz) x=>match b with
      | .ok (.type M)=>match PySem.W.S.strDecS M "super" with
       | .isTrue _=>(iter K .own ⟨P,w.params⟩ c).t e d (gj.own.name X (Str.ofString "__class__")) x λb z=>match b with
        | .ok l=>(iter K .own ⟨P,w.params⟩ c).t e d (gj.own.name X s) z λb y=>match b with
         | .ok self=>(iter K .own ⟨P,w.params⟩ c).t e d (gj.own.VH l) y λb p=>match b with
          | .ok true=>(iter K .own ⟨P,w.params⟩ c).t e d (gj.own.Vl (.type "super") [l,self]) p λb q=>match b with
           | .ok r=>(iter K .own ⟨P,w.params⟩ c).t e d (gj.own.Vx a.o a.name a.apos a.pos X r) q λb m=>match b with
            | .ok _=>g m
            | .error _=>none
           | .error _=>none
          |_=>none
         | .error _=>none
        | .error _=>none
       | .isFalse _=>none
      |_=>none):=λs b n D k=>by
     try dsimp only at k
     split at k
     ·split at k
      ·exact(cv c).t (ae s) k
      ·cases k
     ·cases k
    have ab:∀s:Str,dj (R0:=R0) (λ(V:gi) C=>match qM V with
      |some Z=>match mT ⟨P,w.params⟩ Z with
       |true=>(iter K .own ⟨P,w.params⟩ c).t e d (gj.own.name X (Str.ofString "super")) C λb x=>match b with
        | .ok (.type M)=>match PySem.W.S.strDecS M "super" with
         | .isTrue _=>(iter K .own ⟨P,w.params⟩ c).t e d (gj.own.name X (Str.ofString "__class__")) x λb z=>match b with
          | .ok l=>(iter K .own ⟨P,w.params⟩ c).t e d (gj.own.name X s) z λb y=>match b with
           | .ok self=>(iter K .own ⟨P,w.params⟩ c).t e d (gj.own.VH l) y λb p=>match b with
            | .ok true=>(iter K .own ⟨P,w.params⟩ c).t e d (gj.own.Vl (.type "super") [l,self]) p λb q=>match b with
             | .ok r=>(iter K .own ⟨P,w.params⟩ c).t e d (gj.own.Vx a.o a.name a.apos a.pos X r) q λb m=>match b with
              | .ok _=>g m
              | .error _=>none
             | .error _=>none
            |_=>none
           | .error _=>none
          | .error _=>none
         | .isFalse _=>none
        |_=>none
       |false=>none
      |none=>none):=λs b n D k=>by
     try dsimp only at k
     split at k
     ·split at k
      ·exact(cv c).t (ac s) k
      ·cases k
     ·cases k
    obtain⟨aa,n,aG,O,aO,as⟩:=kI (λaa n D k=>by
     try dsimp only at k
     split at k
     ·split at k
      ·exact hU (ab _) k
      ·cases k
     ·cases k) G aX
    obtain⟨b8,b9,aA,ba⟩:=aa;cases aA with
    |func az=>
     cases a1:mz az with
     |none=>exact(sb (by simp only[a1]) (O n.al n.sl)).elim
     |some s=>
      simp only[a1]at O;obtain⟨ap,aL,rfl⟩:=tg a1;obtain⟨V,C,aF,Q,aP,au⟩:=kI (ab _) O aO;cases Y:qM V with
      |none=>exact(sb (by simp only[Y]) (Q C.al C.sl)).elim
      |some Z=>
       cases a3:mT ⟨P,w.params⟩ Z with
       |false=>exact(sb (by simp only[Y,a3]) (Q C.al C.sl)).elim
       |true=>
        simp only[Y,a3]at Q;obtain⟨bd,bb,aK,aN⟩:=yy Y;obtain⟨aH,aM⟩:=w4 a3;have ar:=as.trans au;refine ks_wpAt_Expr_any ?_ hint (by rfl);rw[arm_eval_Call];refine PySem.wpAt_bind (ks_wpAt_super_base aJ aI aE L aG rfl aL T aF aK aN aH aM ?_);refine I e d (loadName X (Str.ofString "super")) C _ (ac _) Q f h _ _ ok H aP λv x aY J aQ c3=> ?_
        cases v with
        |error A=>exact(sb rfl (J x.al x.sl)).elim
        |ok aD=>
         cases aD with
         |type M=>
          cases ao:PySem.W.S.strDecS M "super" with
          |isFalse A=>exact(sb (by simp only[ao]) (J x.al x.sl)).elim
          |isTrue A=>
           simp only[ao]at J;subst A;refine⟨rfl, ?_⟩;have a5:=ar.trans c3;refine I e d (loadName X (Str.ofString "__class__")) x _ (ae _) J f aY _ _ ok (H.UU a5) aQ λv z aZ aj aR av=> ?_
           cases v with
           |error A=>exact(sb rfl (aj z.al z.sl)).elim
           |ok l=>
            have a6:=a5.trans av;refine I e d (loadName X ap.arg) z _ (af _) aj f aZ _ _ ok (H.UU a6) aR λv y b0 ak aS aw=> ?_
            cases v with
            |error A=>exact(sb rfl (ak y.al y.sl)).elim
            |ok self=>
             have a7:=a6.trans aw;refine I e d (isType l) y _ (ag _ _) ak f b0 _ _ ok (H.UU a7) aS λv p b3 a0 aT ax=> ?_
             cases v with
             |error A=>exact(sb rfl (a0 p.al p.sl)).elim
             |ok aq=>
              cases aq with
              |false=>exact(sb rfl (a0 p.al p.sl)).elim
              |true=>
               refine⟨rfl, ?_⟩;have a8:=a7.trans ax;refine I e d (call (.type "super") [l,self]) p _ ah a0 f b3 _ _ ok (H.UU a8) aT λv q b4 al aU c7=> ?_
               cases v with
               |error A=>exact(sb rfl (al q.al q.sl)).elim
               |ok r=>
                have a9:=a8.trans c7;refine PySem.wpAt_bind (PySem.wpAt_of_wpAny (wpAny_standAt (PySem.wpAt_of_wpAny ?_)));show wpAny (model P w) f (methodCall a.o a.name a.apos a.pos X r 0 [] []) _ _ _;refine I e d (methodCall a.o a.name a.apos a.pos X r 0 [] []) q _ ai al f b4 _ _ ok (H.UU a9) aU λv m b5 an aW ay=> ?_
                cases v with
                |error A=>exact(sb rfl (an m.al m.sl)).elim
                |ok bc=>exact aB m b5 an aW (a9.trans ay)
         |_=>exact(sb rfl (J x.al x.sl)).elim
    |_=>exact(sb rfl (O n.al n.sl)).elim
  |_=>exact(sb (by simp only[L,T]) (G N.al N.sl)).elim
theorem Cq(I:ft P w K F .own c)(J:BodyOk P w K F .own c){a:Wy Stmt}{st:St}{g:Except Wz Flow->St->WA (R0×St)}(v:dj g)
 (C:∀l m,Good F (kC K .own ⟨P,w.params⟩ (iter K .own ⟨P,w.params⟩ c) e d a X (st.w l m) g)){E:Wz->WF->Prop}(ok:oi f e d)(t:eB K f h.heap)(M:Rep P w K (cC f) st h)
 (G:∀q k s1,(∀l m,Good F (g q (k.w l m)))->Rep P w K (cC f) k s1->cU (cC f) st h k s1->(match q with| .ok Q=>i Q s1| .error s=>E s s1)):
  PySem.wpAt (model P w) f (.func j X) (execs a X) i E h:=by
 by_cases H:∃p,st.UT=9::p
 ·obtain⟨p,a0⟩:=H;have n:=λl m=>C l m
  simp only[kC,St.w,a0]at n
  match a,n with
  |[],n=>exact(sb rfl (n st.al st.sl)).elim
  |[O],n=>exact(sb rfl (n st.al st.sl)).elim
  |O::s1::N,n=>
   cases o:Cj s1 with
   |none=>exact(sb (by simp only[o]) (n st.al st.sl)).elim
   |some A=>
    simp only[o]at n;have R:dj (R0:=R0) (λ(L:Except Wz Flow) k=>match L with
      | .ok .next=>wN K .own ⟨P,w.params⟩ (iter K .own ⟨P,w.params⟩ c) e d A X k λr=>(iter K .own ⟨P,w.params⟩ c).b e d N X r g
      |_=>none):=λL k a8 y=>by
     try dsimp only at y
     split at y
     ·exact qO (cv c) (λr A o=>(cv c).b v o) y
     ·cases y
    refine ks_wpAt_execs_cons (PySem.wpAt_of_wpAny (jU ?_));refine I e d (execs [O] X) {st with UT:=p} _ R n f h _ _ ok t (M.same rfl rfl rfl rfl) λq k a4 x a1 T=> ?_
    have z:cU (cC f) st h k a4:=cU.trans (st1:={st with UT:=p}) (.same h rfl rfl) T;cases q with
    |error s=>exact(sb rfl (x k.al k.sl)).elim
    |ok Y=>
     cases Y with
     |next=>
      dsimp only at x|-;rw[Co o];refine ks_wpAt_execs_cons (Cp I (λr A o=>(cv c).b v o) x ok (t.UU z) a1 λr a5 V a2 D=> ?_)
      dsimp only;exact PySem.wpAt_of_wpAny (J e d N X r g v V f a5 i E ok (t.UU (z.trans D)) a2 λq a7 a6 W a3 c3=>G q a7 a6 W a3 ((z.trans D).trans c3))
     |_=>exact(sb rfl (x k.al k.sl)).elim
 ·have s:∀l m,kC K .own ⟨P,w.params⟩ (iter K .own ⟨P,w.params⟩ c) e d a X (st.w l m) g=(iter K .own ⟨P,w.params⟩ c).b e d a X (st.w l m) g:=λl m=>by
   unfold kC;split
   ·rename_i p Z;exact absurd ⟨p,Z⟩ H
   ·rfl
  exact PySem.wpAt_of_wpAny (J e d a X st g v (λl m=>by rw[<-s];exact C l m) f h i E ok t M G)
end
end
section
section
variable {R0:Type} {P:WJ} {w:WG} {K:Nat->WA gi} {F:R0->St->Prop}
theorem yz{b:St->WA (R0×St)}(v:fK b)(f:∀d e,Good F (iQ a c (N.w d e) b))(s:Rep P w K Z N I):
  ∃m,a≠c/\(∀d e,Good F (b (m.w d e)))/\Rep P w K Z m I/\cU Z N I m I:=by
 rcases h:N.UT with _|⟨i,_|⟨l,y⟩⟩
 ·exact(sb (by simp only[iQ,St.w,h]) (f N.al N.sl)).elim
 ·exact(sb (by simp only[iQ,St.w,h]) (f N.al N.sl)).elim
 ·cases g:Nat.beq i l with
  |true=>exact(sb (by simp only[iQ,St.w,h,g]) (f N.al N.sl)).elim
  |false=>
   cases j:cellAt N.led i with
   |none=>exact(sb (by simp only[iQ,St.w,h,g,j]) (f N.al N.sl)).elim
   |some p=>
    cases k:cellAt N.led l with
    |none=>exact(sb (by simp only[iQ,St.w,h,g,j,k]) (f N.al N.sl)).elim
    |some q=>
     have o:∀d e,Good F (b (St.w ⟨N.led,N.gl,N.al,N.sl,y,N.use,N.UN,N.bl,.n p.addr a:: .n q.addr c::N.lg⟩ d e)):=λd e=>by
      have:=f d e;simp only[iQ,St.w,h,g,j,k]at this;exact this
     have r:=(o N.al N.sl).sub λz x=>v _ _ x
     have e1:p.addr=a:=r _ (.head _);have e2:q.addr=c:=r _ (.tail _ (.head _));refine⟨_,λt=> ?_,o,s.same rfl rfl rfl rfl,cU.same I rfl rfl⟩
     have:i=l:=j7 s.nd j k (by rw[e1,e2,t]);subst this;rw[show Nat.beq i i=true from Nat.beq_refl i]at g;cases g
theorem G0{c:Code}{a:wL}(b:Qm c=some a):c= .handlers a.v [.ExceptHandler none (some a.n) [.Raise (some a.x) (some a.c) a.rp] a.hp] a.env:=by
 unfold Qm at b;split at b
 ·cases b;rfl
 ·cases b
theorem QZ{a b:Type}(c:Bool)(e f:Sem a)(d:a->Sem b):((if c=true then e else f)>>=d)=if c=true then e>>=d else f>>=d:=by cases c<;>rfl
theorem pE(e:Env)(b c:Sem Wz):raiseStmt e (some b) (some c)=Sz b c>>=λa=>raiseNew a:=by
 unfold raiseStmt Sz GY;simp only[bind_assoc,pure_bind];congr 1;funext g;congr 1;funext d;congr 1;funext a;simp only[QZ];cases d with
 |none=>exact if_pos rfl
 |_=>exact if_neg (λf=>by cases f)
theorem Cr(a:wL):handleWith a.v a.env [.ExceptHandler none (some a.n) [.Raise (some a.x) (some a.c) a.rp] a.hp]=MR a>>=λ_=>(execs [.Raise (some a.x) (some a.c) a.rp] a.env).attempt>>=λd=>(match d with
  | .ok e=>pure e
  | .error b=>noteFrame b a.env>>=λ_=>MU a b>>=λ_=>throw b):=by
 unfold handleWith MR Cf;simp only[bind_assoc];congr 1;funext _;congr 1;funext _;congr 1;funext _;congr 1;funext d;cases d with
 |ok e=>rfl
 |error b=>
  unfold MU Ci PySem.passOn;simp only[bind_assoc];congr 1;funext _;congr 1;funext _;congr 1;funext g;cases g with
  |none=>exact if_pos rfl
  |_=>exact if_neg (λf=>by cases f)
theorem ti(a:wL):exec (.Raise (some a.x) (some a.c) a.rp) a.env=MS a>>=λb=>raiseNew b:=by rw[arm_exec_Raise];unfold MS Cg;simp only[bind_assoc];congr 1;funext _;exact pE _ _ _
end
theorem oj{d:Type}{b:Model}{A:WK}{e:d->WF->Prop}{E:Wz->WF->Prop}(l:A.handled=some (.ref c))(m:a≠c)(h:wpAny b A (MT (.ref a) (.ref c)) (λ_ g=>E (.ref a) g) E I):wpAny b A (raiseNew (.ref a):Sem d) e E I:=by
 have k:((Value.ref c) !=(Value.ref a))=true:=bne_iff_ne.mpr λn=>m (by cases n;rfl)
 have i:(raiseNew (.ref a):Sem d)=handled>>=λf=>(match f with
   |some c=>(if(c !=Value.ref a)=true then MT (.ref a) c>>=λ_=>throw (.ref a)else throw (.ref a))
   |none=>throw (.ref a)):=by
  unfold raiseNew;congr 1;funext f;cases f with
  |none=>rfl
  |some c=>
   show(if _ then _ else _)=if _ then _ else _
   cases (c !=Value.ref a)with
   |false=>rfl
   |true=>
    rw[if_pos rfl,if_pos rfl];show _=(holding [Value.ref a] _>>=λ_=>updateField a 2 c)>>=_
    rw[bind_assoc]
 rw[i];refine ci (wpAny_handled ?_);rw[l];show wpAny b A (if _ then _ else _) e E I;rw[if_pos k];exact ci (wpAny_mono h (λ_ g j=>wpAny_throw j) λ_ _ o=>o)
end
section
section
variable {R0:Type} {P:WJ} {w:WG} {K:Nat->WA gi} {F:R0->St->Prop}
variable {c:Code}
theorem qW{a:Sem PySem.Fin ⊕Sem Flow}(d:pA gj.own c=some (X,a)):denote table c=match a with
  | .inl a=>a.onRaise λb=>do noteFrame b X;theTreesLotGoes b
  | .inr a=>(a.onRaise λb=>do noteFrame b X;theTreesLotGoes b)>>=λe=>return .done e:=by unfold pA at d;split at d<;>first|(cases d;rfl)|cases d
structure lx(P:WJ)(w:WG)(K:Nat->WA gi):Prop where
 nl:∀h:Heap,gq K h->h.NoLimit
 ex:∀(A:WK) (R:WH->WF->Prop) (s:WF) (v:Wz),gq K s.heap->(R (.ok (.ret (.ref (s.heap.objs.size+1)))) {s with heap:=(s.heap.push (kD v)).push (pz (.ref 44) s.heap.objs.size)})->codeAny (model P w) A (.builtin "Exception.__new__" ⟨[.ref 44,v],[]⟩) R s
theorem Cs(a:Ck c=some v):c= .builtin "Exception.__new__" ⟨[.ref 44,v],[]⟩:=by
 unfold Ck at a;split at a
 ·split at a
  ·rename_i b _ d;cases a;subst b;have:=Nat.eq_of_beq_eq_true d;subst this;rfl
  ·cases a
 ·cases a
theorem w5(aX:lx P w K)(af:ft P w K F .own a)(bz:pD P w K F .own a)(c2:BodyOk P w K F .own a):pD P w K F .own (a+1):=by
 intro r o h d C M an g z R ok T ay a5;have an:∀l p,Good F (ek K .own ⟨P,w.params⟩ (iter K .own ⟨P,w.params⟩ a) r o h (d.w l p) C):=an;have a6:∀{x:St},(∀l p,ek K .own ⟨P,w.params⟩ (iter K .own ⟨P,w.params⟩ a) r o h (d.w l p) C=none)->codeAny (model P w) g h R z:=λ{x} v=>(sb (v d.al d.sl) (an d.al d.sl)).elim
 have cc:oi g r o:=⟨ok.hd,ok.top,by have:=ok.dep;omega,by have:=ok.U9;omega⟩;rcases O:d.UT with _|⟨_|_|_|_|_|_|ag,Y⟩
 ·exact a6 (x:=d) λl p=>by simp only[ek,St.w,O]
 ·cases h with
  |call bP b4=>
   cases bP with
   |ref b3=>
    have X:=λl p=>an l p
    simp only[ek,St.w,O]at X;have bg:g.depth<recursionLimit:=by have:=ok.dep;show g.depth<1000;omega
    have ba:∀e,dj (R0:=R0) (λ(i:Except Wz Flow) A=>match i with
      | .ok (.ret Q)=>C (.ok (.ret Q)) A
      | .ok _=>C (.ok (.ret .none)) A
      | .error x=>hS .own (iter K .own ⟨P,w.params⟩ a) r ⟨o.hd,some e⟩ e x A λD=>C (.error x) D):=λe i A aj f=>by
     try dsimp only at f
     split at f
     ·exact M _ _ _ f
     ·exact M _ _ _ f
     ·exact gY (cv a) (λ_ _ y=>M _ _ _ y) f
    have b9:∀e,dj (R0:=R0) (λ(i:Except Wz Wz) A=>match i with
      | .ok Q=>C (.ok (.ret Q)) A
      | .error x=>hS .own (iter K .own ⟨P,w.params⟩ a) r ⟨o.hd,some e⟩ e x A λD=>C (.error x) D):=λe i A aj f=>by
     try dsimp only at f
     split at f
     ·exact M _ _ _ f
     ·exact gY (cv a) (λ_ _ y=>M _ _ _ y) f
    have bb:∀(s:FuncData) (ao:Bd),dj (R0:=R0) (λ(i:Except Wz Env) c=>match i with
       | .error _=>none
       | .ok m=>match ao with
        | .gen a0=>C (.ok (.ret (.ref (c.al 3)))) ⟨⟨c.al 3,⟨.type "generator",none,.fields #[.int (c.al 0) 0,.str s.name (c.al 1),.str s.qualname (c.al 2)],#[]⟩,false⟩::c.led,(c.al 0,.fresh (.func a0 m))::c.gl,cy (cy (cy (cy c.al))),c.sl,c.UT,c.use,c.UN,c.bl,c.lg⟩
        | .st a0=>match m.frame,c.UT,g9 m.scope.kind with
         |some e,ag::Y,true=>match cellAt c.led ag with
          |some h=>match ew h.obj,h.fr with
           |true,true=>kC K .own ⟨P,w.params⟩ (iter K .own ⟨P,w.params⟩ a) r ⟨o.hd,some e⟩ a0 m ⟨c.led,c.gl,c.al,c.sl,Y,c.use,c.UN,c.bl,.n h.addr e::c.lg⟩ λi A=>match i with
            | .ok (.ret Q)=>C (.ok (.ret Q)) A
            | .ok _=>C (.ok (.ret .none)) A
            | .error x=>hS .own (iter K .own ⟨P,w.params⟩ a) r ⟨o.hd,some e⟩ e x A λD=>C (.error x) D
           |_,_=>none
          |none=>none
         |_,_,_=>none
        | .ex n=>match m.frame,c.UT,g9 m.scope.kind with
         |some e,ag::Y,true=>match cellAt c.led ag with
          |some h=>match ew h.obj,h.fr with
           |true,true=>(iter K .own ⟨P,w.params⟩ a).t r ⟨o.hd,some e⟩ (gj.own.ev n m) ⟨c.led,c.gl,c.al,c.sl,Y,c.use,c.UN,c.bl,.n h.addr e::c.lg⟩ λi A=>match i with
            | .ok Q=>C (.ok (.ret Q)) A
            | .error x=>hS .own (iter K .own ⟨P,w.params⟩ a) r ⟨o.hd,some e⟩ e x A λD=>C (.error x) D
           |_,_=>none
          |none=>none
         |_,_,_=>none):=λs ao i c aj f=>by
     try dsimp only at f
     split at f
     ·cases f
     ·split at f
      ·exact cw.trans (λbC ax=>by first|exact ax|exact .tail _ ax) (M _ _ _ f)
      ·split at f
       ·split at f
        ·split at f
         ·exact cw.trans (λbC ax=>by first|exact ax|exact .tail _ ax) (lu (cv a) (ba _) f)
         ·cases f
        ·cases f
       ·cases f
      ·split at f
       ·split at f
        ·split at f
         ·exact cw.trans (λbC ax=>by first|exact ax|exact .tail _ ax) ((cv a).t (b9 _) f)
         ·cases f
        ·cases f
       ·cases f
    have bw:=λ(s:FuncData) (ao:Bd)=>(show fK (R0:=R0) (λd=>(iter K .own ⟨P,w.params⟩ a).t r o (gj.own.bind s b4) d λi k=>match i with
      | .error _=>none
      | .ok aL=>(iter K .own ⟨P,w.params⟩ a).t r o (gj.own.env s.scope s.globals s.closure aL (s.qualname++ ".<locals>.") (some b3) s.code s.builtins) k _)from λd aj f=>(cv a).t (λi k a3 y=>by
       try dsimp only at y
       split at y
       ·cases y
       ·exact(cv a).t (bb s ao) y) f)
    obtain⟨bA,aJ,bi,aY,c4,bJ⟩:=kI (λbA aJ aj f=>by
     try dsimp only at f
     split at f
     ·split at f
      ·cases f
      ·exact mW (bw _ _) f
     ·cases f) (st:={d with UT:=Y}) X (ay.same rfl rfl rfl rfl)
    have bK:cU (cC g) d z aJ z:=cU.trans (st1:={d with UT:=Y}) (.same z rfl rfl) bJ;obtain⟨ca,cb,bN,cf⟩:=bA;cases bN with
    |func s=>
     cases bd:u8 s with
     |none=>exact(sb (by simp only[bd]) (aY aJ.al aJ.sl)).elim
     |some ao=>
      simp only[bd]at aY;obtain⟨c8,bf,bU,c5,bL⟩:=w1 (bw s ao) aY c4;obtain⟨be,bW⟩:=Cn bd;have e1:g.in1.frames=g.frames:=rfl;have bM:=bK.trans bL;have b5:∀b0:Env->WF->Prop,(∀m c j,(∀l p,Good F ((match ao with
        | .gen a0=>C (.ok (.ret (.ref (l 3)))) ⟨⟨l 3,⟨.type "generator",none,.fields #[.int (l 0) 0,.str s.name (l 1),.str s.qualname (l 2)],#[]⟩,false⟩::c.led,(l 0,.fresh (.func a0 m))::c.gl,cy (cy (cy (cy l))),p,c.UT,c.use,c.UN,c.bl,c.lg⟩
        | .st a0=>match m.frame,c.UT,g9 m.scope.kind with
         |some e,ag::Y,true=>match cellAt c.led ag with
          |some h=>match ew h.obj,h.fr with
           |true,true=>kC K .own ⟨P,w.params⟩ (iter K .own ⟨P,w.params⟩ a) r ⟨o.hd,some e⟩ a0 m ⟨c.led,c.gl,l,p,Y,c.use,c.UN,c.bl,.n h.addr e::c.lg⟩ λi A=>match i with
            | .ok (.ret Q)=>C (.ok (.ret Q)) A
            | .ok _=>C (.ok (.ret .none)) A
            | .error x=>hS .own (iter K .own ⟨P,w.params⟩ a) r ⟨o.hd,some e⟩ e x A λD=>C (.error x) D
           |_,_=>none
          |none=>none
         |_,_,_=>none
        | .ex n=>match m.frame,c.UT,g9 m.scope.kind with
         |some e,ag::Y,true=>match cellAt c.led ag with
          |some h=>match ew h.obj,h.fr with
           |true,true=>(iter K .own ⟨P,w.params⟩ a).t r ⟨o.hd,some e⟩ (gj.own.ev n m) ⟨c.led,c.gl,l,p,Y,c.use,c.UN,c.bl,.n h.addr e::c.lg⟩ λi A=>match i with
            | .ok Q=>C (.ok (.ret Q)) A
            | .error x=>hS .own (iter K .own ⟨P,w.params⟩ a) r ⟨o.hd,some e⟩ e x A λD=>C (.error x) D
           |_,_=>none
          |none=>none
         |_,_,_=>none):WA (R0×St)))->Rep P w K (cC g) c j->cU (cC g) d z c j->b0 m j)->
        wpAny (model P w) g.in1 (bindArgs s b4) (λaL c9=>wpAny (model P w) g.in1 (newFunctionEnv s.scope s.globals s.closure aL (s.qualname++ ".<locals>.") (some b3) s.code none s.builtins) b0 (λn bm=>R (.error n) bm) c9) (λn bm=>R (.error n) bm) z:=by
       intro b0 bS;have bB:oi g.in1 r o:=⟨ok.hd,λe a2=>by rw[cB e1];exact ok.top e a2,by have:=ok.dep;show g.depth+_<=_;omega,by have:=ok.U9;show g.units+1+_<=_;omega⟩
       refine af r o (bindArgs s b4) c8 _ ?_ bU g.in1 z _ _ bB (T.under e1) (by rw[cB e1];exact c5) λV k s1 J W a4=> ?_
       ·intro i k a3 y
        try dsimp only at y
        split at y
        ·cases y
        ·exact(cv a).t (bb s ao) y
       rw[cB e1]at W a4;cases V with
       |error n=>exact(sb rfl (J k.al k.sl)).elim
       |ok aL=>
        dsimp only at J|-;have a1:=bM.trans a4;have b6:=T.UU a1;refine af r o (newFunctionEnv s.scope s.globals s.closure aL (s.qualname++ ".<locals>.") (some b3) s.code none s.builtins) k _ (bb s ao) J g.in1 s1 _ _ bB (b6.under e1) (by rw[cB e1];exact W) λV c j v H I=> ?_
        rw[cB e1]at H I;cases V with
        |error n=>exact(sb rfl (v c.al c.sl)).elim
        |ok m=>exact bS m c j v H (a1.trans I)
      rcases bW with⟨a0,rfl,aP,aO⟩|⟨a0,rfl,aP,aO⟩|⟨a0,rfl,aP,aO⟩
      ·refine codeAny_call_function bg bi rfl be aP aO bf (b5 _ λm c j v H I=> ?_)
       refine⟨aX.nl _ H.base, ?_⟩;dsimp only at v;cases G:m.frame with
       |none=>exact(sb (by simp only[G]) (v c.al c.sl)).elim
       |some e=>
        rcases ae:c.UT with _|⟨ag,av⟩
        ·exact(sb (by simp only[G,ae]) (v c.al c.sl)).elim
        ·cases ac:g9 m.scope.kind with
         |false=>exact(sb (by simp only[G,ae,ac]) (v c.al c.sl)).elim
         |true=>
          cases ai:cellAt c.led ag with
          |none=>exact(sb (by simp only[G,ae,ac,ai]) (v c.al c.sl)).elim
          |some h=>
           cases ar:ew h.obj with
           |false=>exact(sb (by simp only[G,ae,ac,ai,ar]) (v c.al c.sl)).elim
           |true=>
            cases aB:h.fr with
            |false=>exact(sb (by simp only[G,ae,ac,ai,ar,aB]) (v c.al c.sl)).elim
            |true=>
             simp only[G,ae,ac,ai,ar,aB]at v;have ab:h.addr=e:=((v c.al c.sl).sub λx au=>lu (cv a) (ba e) au) _ (.head _)
             have aC:=t9 ai;have az:=T.UU I;have aM:=vf az G ac H aC ar ab;have aq:=ve az G;have bk:Rep P w K (cC (g.deeper m)) ⟨c.led,c.gl,c.al,c.sl,av,c.use,c.UN,c.bl,.n h.addr e::c.lg⟩ j:=by rw[aq];exact qU (H.same rfl rfl rfl rfl) aC aB ab
             have aT:oi (g.deeper m) r ⟨o.hd,some e⟩:=⟨ok.hd,λbI a2=>by cases a2;rw[aq];exact .head _,by have:=ok.dep;show g.depth+1+_<=_;omega,by have:=ok.U9;show g.units+3+_<=_;omega⟩
             refine ks_codeAny_funcAt ?_;refine Cq (st:=⟨c.led,c.gl,c.al,c.sl,av,c.use,c.UN,c.bl,.n h.addr e::c.lg⟩) af c2 (ba e) v aT aM bk λV A aU ak Z c3=> ?_
             have aK:∀{D a8},Rep P w K (cC (g.deeper m)) D a8->cU (cC (g.deeper m)) ⟨c.led,c.gl,c.al,c.sl,av,c.use,c.UN,c.bl,.n h.addr e::c.lg⟩ j D a8->Rep P w K (cC g) D a8/\cU (cC g) d z D a8:=λaa a9=>by
              rw[aq]at aa a9;exact⟨qV aa,I.trans (cU.trans (st1:=⟨c.led,c.gl,c.al,c.sl,av,c.use,c.UN,c.bl,.n h.addr e::c.lg⟩) (.same j rfl rfl) (oJ aC ab a9))⟩
             cases V with
             |ok N=>
              obtain⟨aH,ap⟩:=aK Z c3;cases N with
              |ret Q=>exact a5 _ A aU ak aH ap
              |_=>exact a5 _ A aU ak aH ap
             |error x=>
              refine qT af (λ_ _ y=>M _ _ _ y) ak aT (aM.UU c3) G (by rw[aq];exact .head _) Z λD a8 aN aa a9=> ?_
              obtain⟨bj,aF⟩:=aK aa (c3.trans a9);exact a5 _ D a8 aN bj aF
      ·refine w2 bg bi rfl be aP aO bf (b5 _ λm c j v H I=> ?_)
       refine⟨aX.nl _ H.base, ?_⟩;dsimp only at v;cases G:m.frame with
       |none=>exact(sb (by simp only[G]) (v c.al c.sl)).elim
       |some e=>
        rcases ae:c.UT with _|⟨ag,av⟩
        ·exact(sb (by simp only[G,ae]) (v c.al c.sl)).elim
        ·cases ac:g9 m.scope.kind with
         |false=>exact(sb (by simp only[G,ae,ac]) (v c.al c.sl)).elim
         |true=>
          cases ai:cellAt c.led ag with
          |none=>exact(sb (by simp only[G,ae,ac,ai]) (v c.al c.sl)).elim
          |some h=>
           cases ar:ew h.obj with
           |false=>exact(sb (by simp only[G,ae,ac,ai,ar]) (v c.al c.sl)).elim
           |true=>
            cases aB:h.fr with
            |false=>exact(sb (by simp only[G,ae,ac,ai,ar,aB]) (v c.al c.sl)).elim
            |true=>
             simp only[G,ae,ac,ai,ar,aB]at v;have ab:h.addr=e:=((v c.al c.sl).sub λx au=>(cv a).t (b9 e) au) _ (.head _)
             have aC:=t9 ai;have az:=T.UU I;have aM:=vf az G ac H aC ar ab;have aq:=ve az G;have bk:Rep P w K (cC (g.deeper m)) ⟨c.led,c.gl,c.al,c.sl,av,c.use,c.UN,c.bl,.n h.addr e::c.lg⟩ j:=by rw[aq];exact qU (H.same rfl rfl rfl rfl) aC aB ab
             have aT:oi (g.deeper m) r ⟨o.hd,some e⟩:=⟨ok.hd,λbI a2=>by cases a2;rw[aq];exact .head _,by have:=ok.dep;show g.depth+1+_<=_;omega,by have:=ok.U9;show g.units+3+_<=_;omega⟩
             refine w3 ?_;refine af r ⟨o.hd,some e⟩ (eval a0 m) ⟨c.led,c.gl,c.al,c.sl,av,c.use,c.UN,c.bl,.n h.addr e::c.lg⟩ _ (b9 e) v (g.deeper m) j _ _ aT aM bk λV A aU ak Z c3=> ?_
             have aK:∀{D a8},Rep P w K (cC (g.deeper m)) D a8->cU (cC (g.deeper m)) ⟨c.led,c.gl,c.al,c.sl,av,c.use,c.UN,c.bl,.n h.addr e::c.lg⟩ j D a8->Rep P w K (cC g) D a8/\cU (cC g) d z D a8:=λaa a9=>by
              rw[aq]at aa a9;exact⟨qV aa,I.trans (cU.trans (st1:=⟨c.led,c.gl,c.al,c.sl,av,c.use,c.UN,c.bl,.n h.addr e::c.lg⟩) (.same j rfl rfl) (oJ aC ab a9))⟩
             cases V with
             |ok Q=>
              obtain⟨aH,ap⟩:=aK Z c3;exact a5 _ A aU ak aH ap
             |error x=>
              refine qT af (λ_ _ y=>M _ _ _ y) ak aT (aM.UU c3) G (by rw[aq];exact .head _) Z λD a8 aN aa a9=> ?_
              obtain⟨bj,aF⟩:=aK aa (c3.trans a9);exact a5 _ D a8 aN bj aF
      ·refine codeAny_call_generator bg bi rfl be aP aO bf (b5 _ λm c j v H I=> ?_)
       refine⟨aX.nl _ H.base, ?_⟩;dsimp only at v;have az:=T.UU I;have aZ:∀l p,Good F (C (.ok (.ret (.ref j.heap.objs.size))) (St.w ⟨⟨j.heap.objs.size,⟨.type "generator",none,.fields #[.int j.gens.size 0,.str s.name j.toks,.str s.qualname (j.toks+1)],#[]⟩,false⟩::c.led,(j.gens.size,.fresh (.func a0 m))::c.gl,c.al,c.sl,c.UT,c.use,c.UN,c.bl,c.lg⟩ l p)):=λl p=>v (cons j.gens.size (cons j.toks (cons (j.toks+1) (cons j.heap.objs.size l)))) p
       obtain⟨Z,c3⟩:=u9 (c:= .func a0 m) (st1:=⟨c.led,(j.gens.size,.fresh (.func a0 m))::c.gl,c.al,c.sl,c.UT,c.use,c.UN,c.bl,c.lg⟩) H rfl rfl rfl rfl;have aH:Rep P w K (cC g) ⟨c.led,(j.gens.size,.fresh (.func a0 m))::c.gl,c.al,c.sl,c.UT,c.use,c.UN,c.bl,c.lg⟩ {j with gens:=j.gens.push (.fresh (.func a0 m)),toks:=j.toks+1+1}:=⟨Z.cell,Z.nd,Z.nk,Z.nf,Z.base,Z.gen,Z.U6,Z.bare,Z.use,Z.UN,Z.UO⟩;have ap:cU (cC g) c j ⟨c.led,(j.gens.size,.fresh (.func a0 m))::c.gl,c.al,c.sl,c.UT,c.use,c.UN,c.bl,c.lg⟩ {j with gens:=j.gens.push (.fresh (.func a0 m)),toks:=j.toks+1+1}:=⟨⟨c3.step.chg,c3.step.U7,c3.step.os,c3.step.gens⟩,c3.led,c3.gl⟩;obtain⟨aa,a9⟩:=kG (o:=⟨.type "generator",none,.fields #[.int j.gens.size 0,.str s.name j.toks,.str s.qualname (j.toks+1)],#[]⟩) (b:=false) (st1:=⟨⟨j.heap.objs.size,⟨.type "generator",none,.fields #[.int j.gens.size 0,.str s.name j.toks,.str s.qualname (j.toks+1)],#[]⟩,false⟩::c.led,(j.gens.size,.fresh (.func a0 m))::c.gl,c.al,c.sl,c.UT,c.use,c.UN,c.bl,c.lg⟩) aH (λN a7=>(fM az N a7).2) rfl rfl rfl rfl rfl
       exact a5 _ _ _ aZ aa (I.trans (ap.trans a9))
    |_=>exact(sb rfl (aY aJ.al aJ.sl)).elim
   |_=>exact a6 (x:=d) λl p=>by simp only[ek,St.w,O]
  |_=>exact a6 (x:=d) λl p=>by simp only[ek,St.w,O]
 ·cases L:gp h with
  |false=>exact a6 (x:=d) λl p=>by simp only[ek,St.w,O,L]
  |true=>
   have X:=λl p=>an l p
   simp only[ek,St.w,O,L]at X;have q:=i5 (A:=g) L;refine codeAny_of_tree ?_;have aA:dj (R0:=R0) (λ(i:Except Wz PySem.Fin) k=>match i with
     | .ok (.done N)=>C (.ok N) k
     | .ok (.again ah)=>match ah.quiet with
      |true=>(iter K .own ⟨P,w.params⟩ a).c r o ah k C
      |false=>none
     | .error n=>C (.error n) k):=λi k aj f=>by
    try dsimp only at f
    split at f
    ·exact M _ _ _ f
    ·split at f
     ·exact(cv a).c M f
     ·cases f
    ·exact M _ _ _ f
   refine af r o _ {d with UT:=Y} _ aA X (g.under h) z _ _ ⟨ok.hd,λe a2=>by rw[cB q];exact ok.top e a2, ?_, ?_⟩ (T.under q) (by rw[cB q];exact ay.same rfl rfl rfl rfl) λV k s1 J W a4=> ?_
   ·have:=ok.dep;have:=im L;show g.depth+h.weight+_<=_;omega
   ·have:=ok.U9;have:=i4 L;show g.units+h.cUnits+_<=_;omega
   rw[cB q]at W a4;have a1:cU (cC g) d z k s1:=cU.trans (st1:={d with UT:=Y}) (.same z rfl rfl) a4;cases V with
   |error n=>exact a5 _ k s1 J W a1
   |ok N=>
    cases N with
    |done N=>exact a5 _ k s1 J W a1
    |again ah=>
     dsimp only at J|-;cases aR:ah.quiet with
     |false=>exact(sb (by simp only[aR]) (J k.al k.sl)).elim
     |true=>
      simp only[aR]at J;exact⟨rfl,bz r o ah k C M J g s1 R ok (T.UU a1) W λi c j v H I=>a5 i c j v H (a1.trans I)⟩
 ·exact vd M (λl p=>by
   have:=an l p;simp only[ek,St.w,O]at this;exact this) ok T ay a5
 ·cases L:gp h with
  |false=>exact a6 (x:=d) λl p=>by simp only[ek,St.w,O,L]
  |true=>
   cases aQ:pA gj.own h with
   |none=>exact a6 (x:=d) λl p=>by simp only[ek,St.w,O,L,aQ]
   |some bO=>
    obtain⟨m,aS⟩:=bO;cases as:o.top with
    |none=>exact a6 (x:=d) λl p=>by simp only[ek,St.w,O,L,aQ,as]
    |some e=>
     cases a7:m.frame with
     |none=>exact a6 (x:=d) λl p=>by simp only[ek,St.w,O,L,aQ,as,a7]
     |some aW=>
      have q:=i5 (A:=g) L;have bX:=qW aQ;have G:=ok.top e as;have aE:oi (g.under h) r o:=⟨ok.hd,λe a2=>by rw[cB q];exact ok.top e a2,by have:=ok.dep;have:=im L;show g.depth+h.weight+_<=_;omega,by have:=ok.U9;have:=i4 L;show g.units+h.cUnits+_<=_;omega⟩
      have X:=λl p=>an l p
      simp only[ek,St.w,O,L,aQ,as,a7]at X;refine codeAny_of_tree ?_;show wpAny _ (g.under h) (denote table h) _ _ z;rw[bX];cases aS with
      |inl aS=>
       have aA:dj (R0:=R0) (λ(i:Except Wz PySem.Fin) k=>match i with
         | .ok (.done N)=>C (.ok N) k
         | .ok (.again ah)=>match ah.quiet with
          |true=>(iter K .own ⟨P,w.params⟩ a).c r o ah k C
          |false=>none
         | .error x=>fg e x k λc=>C (.error x) c):=λi k aj f=>by
        try dsimp only at f
        split at f
        ·exact M _ _ _ f
        ·split at f
         ·exact(cv a).c M f
         ·cases f
        ·exact fL (λ_ _ y=>M _ _ _ y) f
       dsimp only at X|-;have ab:e=aW:=((X d.al d.sl).sub λx au=>(cv a).t aA au) _ (.head _)
       subst ab;refine wpAny_onRaise ?_;refine af r o aS ⟨d.led,d.gl,d.al,d.sl,Y,d.use,d.UN,d.bl,.n e e::d.lg⟩ _ aA X (g.under h) z _ _ aE (T.under q) (by rw[cB q];exact ay.same rfl rfl rfl rfl) λV k s1 J W a4=> ?_
       rw[cB q]at W a4;have a1:cU (cC g) d z k s1:=cU.trans (st1:=⟨d.led,d.gl,d.al,d.sl,Y,d.use,d.UN,d.bl,.n e e::d.lg⟩) (.same z rfl rfl) a4;cases V with
       |error x=>
        refine ci (jC (λ_ _ y=>M _ _ _ y) J ((T.UU a1).under q) a7 (by rw[cB q];exact G) (by rw[cB q];exact W) λc j v H I=> ?_)
        rw[cB q]at H I;exact wpAny_theTreesLotGoes (a5 _ c j v H (a1.trans I))
       |ok N=>
        cases N with
        |done N=>exact a5 _ k s1 J W a1
        |again ah=>
         dsimp only at J|-;cases aR:ah.quiet with
         |false=>exact(sb (by simp only[aR]) (J k.al k.sl)).elim
         |true=>
          simp only[aR]at J;exact⟨rfl,bz r o ah k C M J g s1 R ok (T.UU a1) W λi c j v H I=>a5 i c j v H (a1.trans I)⟩
      |inr aS=>
       have aA:dj (R0:=R0) (λ(i:Except Wz Flow) k=>match i with
         | .ok N=>C (.ok N) k
         | .error x=>fg e x k λc=>C (.error x) c):=λi k aj f=>by
        try dsimp only at f
        split at f
        ·exact M _ _ _ f
        ·exact fL (λ_ _ y=>M _ _ _ y) f
       dsimp only at X|-;have ab:e=aW:=((X d.al d.sl).sub λx au=>(cv a).t aA au) _ (.head _)
       subst ab;refine ci (wpAny_onRaise ?_);refine af r o aS ⟨d.led,d.gl,d.al,d.sl,Y,d.use,d.UN,d.bl,.n e e::d.lg⟩ _ aA X (g.under h) z _ _ aE (T.under q) (by rw[cB q];exact ay.same rfl rfl rfl rfl) λV k s1 J W a4=> ?_
       rw[cB q]at W a4;have a1:cU (cC g) d z k s1:=cU.trans (st1:=⟨d.led,d.gl,d.al,d.sl,Y,d.use,d.UN,d.bl,.n e e::d.lg⟩) (.same z rfl rfl) a4;cases V with
       |error x=>
        refine ci (jC (λ_ _ y=>M _ _ _ y) J ((T.UU a1).under q) a7 (by rw[cB q];exact G) (by rw[cB q];exact W) λc j v H I=> ?_)
        rw[cB q]at H I;exact wpAny_theTreesLotGoes (a5 _ c j v H (a1.trans I))
       |ok N=>exact cj (a5 _ k s1 J W a1)
 ·cases L:gp h with
  |false=>exact a6 (x:=d) λl p=>by simp only[ek,St.w,O,L]
  |true=>
   cases aD:Qm h with
   |none=>exact a6 (x:=d) λl p=>by simp only[ek,St.w,O,L,aD]
   |some a3=>
    cases aG:o.hd with
    |none=>exact a6 (x:=d) λl p=>by simp only[ek,St.w,O,L,aD,aG]
    |some c1=>
     cases c1 with
     |ref a2=>
      cases as:o.top with
      |none=>exact a6 (x:=d) λl p=>by simp only[ek,St.w,O,L,aD,aG,as]
      |some e=>
       cases a7:a3.env.frame with
       |none=>exact a6 (x:=d) λl p=>by simp only[ek,St.w,O,L,aD,aG,as,a7]
       |some aW=>
        have q:=i5 (A:=g) L;have G:=ok.top e as;have aE:oi (g.under h) r o:=⟨ok.hd,λe a2=>by rw[cB q];exact ok.top e a2,by have:=ok.dep;have:=im L;show g.depth+h.weight+_<=_;omega,by have:=ok.U9;have:=i4 L;show g.units+h.cUnits+_<=_;omega⟩
        have X:=λl p=>an l p
        simp only[ek,St.w,O,L,aD,aG,as,a7]at X;have b8:∀n,dj (R0:=R0) (λ(i:Except Wz Unit) al=>match i with
          | .ok _=>fg e (.ref n) al λaw=>C (.error (.ref n)) aw
          | .error _=>none):=λn i k aj f=>by
         try dsimp only at f
         split at f
         ·exact fL (λ_ _ y=>M _ _ _ y) f
         ·cases f
        have b7:∀n,dj (R0:=R0) (λ(i:Except Wz Unit) A=>match i with
          | .ok _=>fg e (.ref n) A λD=>(iter K .own ⟨P,w.params⟩ a).t r o (gj.own.rq a3 (.ref n)) D λi al=>match i with
           | .ok _=>fg e (.ref n) al λaw=>C (.error (.ref n)) aw
           | .error _=>none
          | .error _=>none):=λn i k aj f=>by
         try dsimp only at f
         split at f
         ·exact fL (λ_ _ y=>(cv a).t (b8 n) y) f
         ·cases f
        have bv:dj (R0:=R0) (λ(i:Except Wz Wz) k=>match i with
          | .ok (.ref n)=>iQ n a2 k λc=>(iter K .own ⟨P,w.params⟩ a).t r o (gj.own.ru (.ref n) (.ref a2)) c λi A=>match i with
           | .ok _=>fg e (.ref n) A λD=>(iter K .own ⟨P,w.params⟩ a).t r o (gj.own.rq a3 (.ref n)) D λi al=>match i with
            | .ok _=>fg e (.ref n) al λaw=>C (.error (.ref n)) aw
            | .error _=>none
           | .error _=>none
          |_=>none):=λi k aj f=>by
         try dsimp only at f
         split at f
         ·exact oE (λ_ _ y=>(cv a).t (b7 _) y) f
         ·cases f
        have bt:dj (R0:=R0) (λ(i:Except Wz Unit) aI=>match i with
          | .ok _=>(iter K .own ⟨P,w.params⟩ a).t r o (gj.own.rz a3) aI λi k=>match i with
           | .ok (.ref n)=>iQ n a2 k λc=>(iter K .own ⟨P,w.params⟩ a).t r o (gj.own.ru (.ref n) (.ref a2)) c λi A=>match i with
            | .ok _=>fg e (.ref n) A λD=>(iter K .own ⟨P,w.params⟩ a).t r o (gj.own.rq a3 (.ref n)) D λi al=>match i with
             | .ok _=>fg e (.ref n) al λaw=>C (.error (.ref n)) aw
             | .error _=>none
            | .error _=>none
           |_=>none
          | .error _=>none):=λi k aj f=>by
         try dsimp only at f
         split at f
         ·exact(cv a).t bv f
         ·cases f
        have ab:e=aW:=((X d.al d.sl).sub λx au=>(cv a).t bt au) _ (.head _)
        subst ab;have bR:g.handled=some (.ref a2):=ok.hd.trans aG;refine codeAny_of_tree ?_;show wpAny _ (g.under h) (denote table h) _ _ z;rw[show denote table h=((handleWith a3.v a3.env [.ExceptHandler none (some a3.n) [.Raise (some a3.x) (some a3.c) a3.rp] a3.hp]).onRaise λx=>do noteFrame x a3.env;theTreesLotGoes x)>>=λN=>return .done N from by
         have:=G0 aD;subst this;rfl]
        refine ci (wpAny_onRaise ?_);rw[Cr];refine ci ?_;refine af r o (MR a3) ⟨d.led,d.gl,d.al,d.sl,Y,d.use,d.UN,d.bl,.n e e::d.lg⟩ _ bt X (g.under h) z _ _ aE (T.under q) (by rw[cB q];exact ay.same rfl rfl rfl rfl) λV aI bG bx bD bn=> ?_
        rw[cB q]at bD bn;have bo:cU (cC g) d z aI bG:=cU.trans (st1:=⟨d.led,d.gl,d.al,d.sl,Y,d.use,d.UN,d.bl,.n e e::d.lg⟩) (.same z rfl rfl) bn;cases V with
        |error x=>exact(sb rfl (bx aI.al aI.sl)).elim
        |ok bH=>
         refine ci (wpAny_attempt (wpAny_execs_cons ?_));rw[ti];refine ci ?_;refine af r o (MS a3) aI _ bv bx (g.under h) bG _ _ aE ((T.UU bo).under q) (by rw[cB q];exact bD) λV k s1 J W a4=> ?_
         rw[cB q]at W a4;have a1:=bo.trans a4;cases V with
         |error x=>exact(sb rfl (J k.al k.sl)).elim
         |ok Q=>
          cases Q with
          |ref n=>
           dsimp only at J|-;obtain⟨c,bY,v,H,I⟩:=yz (λ_ _ y=>(cv a).t (b7 n) y) J W
           have bp:=a1.trans I;refine oj (A:=g.under h) (by exact bR) bY ?_;refine af r o (MT (.ref n) (.ref a2)) c _ (b7 n) v (g.under h) s1 _ _ aE ((T.UU bp).under q) (by rw[cB q];exact H) λV A aU ak Z c3=> ?_
           rw[cB q]at Z c3;have ap:=bp.trans c3;cases V with
           |error x=>exact(sb rfl (ak A.al A.sl)).elim
           |ok bH=>
            dsimp only at ak|-;refine ci (jC (λ_ _ y=>(cv a).t (b8 n) y) ak ((T.UU ap).under q) a7 (by rw[cB q];exact G) (by rw[cB q];exact Z) λD a8 aN aa a9=> ?_)
            rw[cB q]at aa a9;have aF:=ap.trans a9;refine ci ?_;refine af r o (MU a3 (.ref n)) D _ (b8 n) aN (g.under h) a8 _ _ aE ((T.UU aF).under q) (by rw[cB q];exact aa) λV al cd bc bE bq=> ?_
            rw[cB q]at bE bq;have br:=aF.trans bq;cases V with
            |error x=>exact(sb rfl (bc al.al al.sl)).elim
            |ok bH=>
             dsimp only at bc|-;refine wpAny_throw ?_;refine ci (jC (λ_ _ y=>M _ _ _ y) bc ((T.UU br).under q) a7 (by rw[cB q];exact G) (by rw[cB q];exact bE) λaw c6 bQ bF bs=> ?_)
             rw[cB q]at bF bs;exact wpAny_theTreesLotGoes (a5 _ aw c6 bQ bF (br.trans bs))
          |_=>exact(sb rfl (J k.al k.sl)).elim
     |_=>exact a6 (x:=d) λl p=>by simp only[ek,St.w,O,L,aD,aG]
 ·cases bh:Ck h with
  |none=>exact a6 (x:=d) λl p=>by simp only[ek,St.w,O,bh]
  |some Q=>
   have X:=λl p=>an (cons z.heap.objs.size (cons (z.heap.objs.size+1) l)) p
   simp only[ek,St.w,O,bh]at X;have bV:=Cs bh;subst bV;refine aX.ex g R z Q ay.base ?_;obtain⟨W,a4⟩:=kG (o:=kD Q) (b:=false) (st1:=⟨⟨z.heap.objs.size,kD Q,false⟩::d.led,d.gl,d.al,d.sl,Y,d.use,d.UN,d.bl,d.lg⟩) ay (λN a7=>(fM T N a7).2) rfl rfl rfl rfl rfl
   have b6:=T.UU a4;have bZ:(z.heap.push (kD Q)).objs.size=z.heap.objs.size+1:=Heap.size_push ..;obtain⟨H,I⟩:=kG (o:=pz (.ref 44) z.heap.objs.size) (b:=false) (st1:=⟨⟨z.heap.objs.size+1,pz (.ref 44) z.heap.objs.size,false⟩::⟨z.heap.objs.size,kD Q,false⟩::d.led,d.gl,d.al,d.sl,Y,d.use,d.UN,d.bl,d.lg⟩) W (λN a7=>(fM b6 N a7).2) rfl (by rw[<-bZ]) rfl rfl rfl
   have aZ:∀l p,Good F (C (.ok (.ret (.ref (z.heap.objs.size+1)))) (St.w ⟨⟨z.heap.objs.size+1,pz (.ref 44) z.heap.objs.size,false⟩::⟨z.heap.objs.size,kD Q,false⟩::d.led,d.gl,d.al,d.sl,Y,d.use,d.UN,d.bl,d.lg⟩ l p)):=λl p=>X l p
   exact a5 _ _ _ aZ H (a4.trans I)
 ·exact a6 (x:=d) λl p=>by simp only[ek,St.w,O]
end
end
section
def ol(f:Model)(e:WK)(c:Code)(i:Pos)(k:Sem PySem.Fin)(h:Wy WM)(j:WF)(g:End->WF->Prop):Prop:=
 ∀b:Ctx,b.code=c->b.Woken e->∃a d,Runs f b i k h j a d/\a.quiet=true/\g a d
structure vg(c:Code)(fs:Wy WM)(L:Nat):Prop where
 plain:fJ fs=true
 fc:frameCount (fs.map Frame.where_)+c.weight<=48
 un:unitsOf (fs.map Frame.where_)+c.cUnits<=80
 envs:∀env∈c.envs++envsOf (fs.map Frame.where_),env.frame=some L/\env.scope.kind≠ .module
 has:c.envs++envsOf (fs.map Frame.where_)≠[]
theorem i8:∀{a:Wy WM},fJ a=true->∀b,marksOver a b=b
 |[],_,_=>rfl
 | .gen .. ::_,c,_=>by simp[fJ]at c
 | .ret e l j g d h f::a,c,b=>by
  cases l with
  |some o=>simp[fJ]at c
  |none=>
   cases j with
   |true=>simp[fJ]at c
   |false=>
    have k:fJ a=true:=c;have i:marksOver (Frame.ret e none false g d h f::a) b=Frame.marks (Frame.ret e none false g d h f) (marksOver a b):=by first|rfl|simp[marksOver]
    rw[i,i8 k];obtain⟨m,n⟩:=b
    first|rfl|simp[Frame.marks,markOver]
theorem oL{a:Nat}:∀{d:Wy Env} {c:Wy g8},mU a d=some c->(∀e∈c,e.ok)->(∀f∈d,f.frame=some a/\f.scope.kind≠ .module)/\c.length=d.length
 |[],c,b,_=>by cases b;exact⟨λ_ n=>(by cases n),rfl⟩
 |f::d,c,b,h=>by
  simp only[mU]at b;split at b
  ·rename_i i k m;split at b
   ·rename_i r l;cases b;obtain⟨o,p⟩:=oL l (λe j=>h e (.tail _ j))
    have e1:i=a:=h _ (.head _);refine⟨λq g=> ?_,congrArg (· +1) p⟩
    rcases t6 g with rfl|g
    ·exact⟨e1▸k,oI m⟩
    ·exact o q g
   ·cases b
  ·cases b
theorem Ct{d:Nat->WA gi}{c:Code}{b:Wy WM}{e:Heap}(p:eB d F e)(o:gz d a e)(h:vg c b a):
  eB d (F.over c b) e/\(∀i,i∈cC (F.over c b) ↔i∈a::cC F):=by
 obtain⟨w,n,y⟩:=p;have k:(F.over c b).frames=some (c.envs++(envsOf (b.map Frame.where_)++w)):=by
  show pushEnvs c.envs (pushEnvs (envsOf (b.map Frame.where_)) F.frames)=_;rw[n,pushEnvs_eq,pushEnvs_eq];rfl
 refine⟨⟨_,k,λg f=> ?_⟩,λi=> ?_⟩
 ·rw[<-List.append_assoc]at f;rcases ud f with f|f
  ·obtain⟨q,r⟩:=h.envs g f;obtain⟨s,x,v,t⟩:=o;exact⟨r,a,x,q,v,t,s⟩
  ·exact y g f
 ·unfold cC;rw[k,n,Option.getD_some,Option.getD_some,<-List.append_assoc,List.filterMap_append,List.mem_append,List.mem_cons];refine or_congr_left ⟨λj=> ?_,λj=> ?_⟩
  ·obtain⟨g,f,l⟩:=List.mem_filterMap.mp j;rw[(h.envs g f).1]at l;exact(Option.some.inj l).symm
  ·subst j;cases m:c.envs++envsOf (b.map Frame.where_)with
   |nil=>exact absurd m h.has
   |cons g z=>exact List.mem_filterMap.mpr ⟨g,.head _,(h.envs g (by rw[m];exact .head _)).1⟩
section
variable {R0:Type} {P:WJ} {w:WG} {K:Nat->WA gi} {F:R0->St->Prop}
theorem Rep.congr{a:Wy Addr}(b:Rep P w K a N I)(e:∀c,c∈Z->c∈a):Rep P w K Z N I:=⟨b.cell,b.nd,b.nk,λd f g h=>b.nf d f g (e _ h),b.base,b.gen,b.U6,b.bare,b.use,b.UN,b.UO⟩
theorem cU.congr{a:Wy Addr}{s1:WF}(c:cU a N I O s1)(f:∀d,d∈a->d∈Z):cU Z N I O s1:=
 ⟨c.step.weaken (λe b=>.inl (f e b)) (λ_ b=>b),c.led,c.gl⟩
theorem gz.UU{s1:WF}{a:Wy Addr}(i:gz K d I.heap)(j:cU a N I O s1):gz K d s1.heap:=by obtain⟨b,k,f,c⟩:=i;obtain⟨h,g,e⟩:=j.step.U7 _ _ f;exact⟨b,h,g,e.nf c⟩
variable {b:WK}
theorem Ra{a:Heap}(g:eB K b a)(f:gz K d a):∀c∈d::cC b,K c=none/\∃l,a.get? c=some l:=λc i=>by
 rcases t6 i with e|e
 ·subst e;obtain⟨h,k,j,_⟩:=f;exact⟨h,k,j⟩
 ·exact fM g c e
abbrev ly(P:WJ)(w:WG)(K:Nat->WA gi)(F:R0->St->Prop)(p:gj)(q:Nat):Prop:=
 ∀(l:Nat) (e:Code) (n:Pos) (o:Sem PySem.Fin) (f:Wy WM) (b:Nat) (h:St) (j:End->St->WA (R0×St)),dj j->(∀d g,Good F ((iter K p ⟨P,w.params⟩ q).s l e n o f b (h.w d g) j))->
  ∀(a:WK) (c:WF) (k:End->WF->Prop),JP a l->eB K a c.heap->gz K b c.heap->vg e f b->Rep P w K (b::cC a) h c->
  (∀m i s1,(∀d g,Good F (j m (i.w d g)))->Rep P w K (b::cC a) i s1->cU (b::cC a) h c i s1->k m s1)->ol (model P w) a e n o f c k
variable {j:Type}
def Keeps(e:Model)(g:Sem j):Prop:=∀(i:Ctx) (f:j->WF->Prop) (E:Wz->WF->Prop) (d:Pos) (h:WF),
 Sem.wp e i g (λb _ a=>f b a) (λc _ a=>E c a) d h->Sem.wp e i g (λb k a=>k=d/\f b a) (λc _ a=>E c a) d h
variable {h:End->WF->Prop} {a:Wy WM} {i:Pos} {c:Code}
theorem w6{d:Sem j}{e:j->Sem PySem.Fin}(q:Keeps (model P w) d)
 (o:wpAny (model P w) (b.over c a) d (λl s1=>ol (model P w) b c i (e l) a s1 h) (λ_ _=>False) I):ol (model P w) b c i (d.wrap e .raise id id) a I h:=by
 rintro n rfl m;have p:=q _ _ _ _ _ (o (n.over a) i (m.over a));obtain⟨k,g,s,r⟩:=runs_wrap_of_wp (Φ:=λk g=>k.quiet=true/\h k g) e .raise id id d p (λl t g f=>by
  obtain⟨rfl,f⟩:=f;exact f n rfl m) (λv t g f=>f.elim)
 exact⟨k,g,s,r⟩
variable {g:End->St->WA (R0×St)}
theorem hX(R:ft P w K F .own f)(V:ly P w K F .own f){m:Sem j}{k:j->Sem PySem.Fin}(Y:Keeps (model P w) m)(A:dj g)
 (G:∀s x,Good F (jR (iter K .own ⟨P,w.params⟩ f) e c i a d m k (N.w s x) g))(ok:JP b e)(z:eB K b I.heap)(y:gz K d I.heap)(o:vg c a d)(a1:Rep P w K (d::cC b) N I)
 (L:∀p l s1,(∀s x,Good F (g p (l.w s x)))->Rep P w K (d::cC b) l s1->cU (d::cC b) N I l s1->h p s1):ol (model P w) b c i (m.wrap k .raise id id) a I h:=by
 obtain⟨M,v⟩:=Ct z y o;refine w6 Y ?_;have O:dj (λ(D:Except Wz j) l=>match D with
   | .ok n=>(iter K .own ⟨P,w.params⟩ f).s e c i (k n) a d l g
   | .error _=>none):=λD l a4 r=>by
  try dsimp only at r
  split at r
  ·exact(cv f).s A r
  ·cases r
 refine R e ⟨none,none⟩ m N _ O G (b.over c a) I _ _ ⟨?_,λd Q=>(by cases Q), ?_, ?_⟩ M (a1.congr λn q=>(v n).mp q) λW l s1 C X H=> ?_
 ·show(marksOver a (b.handled,b.handled)).1=none;rw[i8 o.plain];exact ok.hd
 ·have:=ok.dep;have:=o.fc;show b.depth+frameCount (a.map Frame.where_)+c.weight+2*e<=900;omega
 ·have:=ok.U9;have:=o.un;show b.units+unitsOf (a.map Frame.where_)+c.cUnits+12*e<=9000;omega
 ·cases W with
  |error p=>exact(sb rfl (C l.al l.sl)).elim
  |ok n=>
   have Z:Rep P w K (d::cC b) l s1:=X.congr λn q=>(v n).mpr q
   have t:cU (d::cC b) N I l s1:=H.congr λn q=>(v n).mp q
   exact V e c i (k n) a d l g A C b s1 h ok (z.UU t) (y.UU t) o Z λp a3 a2 T a0 J=>L p a3 a2 T a0 (t.trans J)
variable {st:St}
theorem jD(N:ly P w K F .own f){j:Sem PySem.Fin}(z:dj g)
 (x:∀k l,Good F (eL (iter K .own ⟨P,w.params⟩ f) e c i j a d (st.w k l) g))(T:JP b e)(J:eB K b I.heap)(H:gz K d I.heap)(R:Rep P w K (d::cC b) st I)
 (G:∀n s s1,(∀k l,Good F (g n (s.w k l)))->Rep P w K (d::cC b) s s1->cU (d::cC b) st I s s1->h n s1):ol (model P w) b c i j a I h:=by
 have p:(∀k l,eL (iter K .own ⟨P,w.params⟩ f) e c i j a d (st.w k l) g=none)->ol (model P w) b c i j a I h:=λo=>(sb (o st.al st.sl) (x st.al st.sl)).elim
 cases m:fJ a with
 |false=>exact p λk l=>by simp only[eL,m]
 |true=>
  cases o:c.isCaller with
  |true=>exact p λk l=>by simp only[eL,m,o]
  |false=>
   cases q:Nat.ble (frameCount (a.map Frame.where_)+c.weight) 48 with
   |false=>exact p λk l=>by simp only[eL,m,o,q]
   |true=>
    cases r:Nat.ble (unitsOf (a.map Frame.where_)+c.cUnits) 80 with
    |false=>exact p λk l=>by simp only[eL,m,o,q,r]
    |true=>
     cases v:mU d (c.envs++envsOf (a.map Frame.where_))with
     |none=>exact p λk l=>by simp only[eL,m,o,q,r,v]
     |some t=>
      cases t with
      |nil=>exact p λk l=>by simp only[eL,m,o,q,r,v]
      |cons n t=>
       have y:∀k l,Good F ((iter K .own ⟨P,w.params⟩ f).s e c i j a d (St.w ⟨st.led,st.gl,st.al,st.sl,st.UT,st.use,st.UN,st.bl,(n::t)++st.lg⟩ k l) g):=λk l=>by
        have:=x k l;simp only[eL,m,o,q,r,v,St.w]at this;exact this
       have Q:=(y st.al st.sl).sub λW M=>(cv f).s z M
       obtain⟨O,A⟩:=oL v λn L=>Q n (ue _ L)
       have D:vg c a d:=⟨m,Nat.le_of_ble_eq_true q,Nat.le_of_ble_eq_true r,O,λV=>by rw[V]at A;cases A⟩
       exact N e c i j a d _ g z y b I h T J H D (R.same rfl rfl rfl rfl) λn s s1 m Y C=>G n s s1 m Y (cU.trans (st1:=⟨st.led,st.gl,st.al,st.sl,st.UT,st.use,st.UN,st.bl,(_::t)++st.lg⟩) (.same I rfl rfl) C)
theorem vh(D:ly P w K F .own f){r:WH}(z:dj g)
 (k:∀l m,Good F (wO (iter K .own ⟨P,w.params⟩ f) e r a d (N.w l m) g))(G:JP b e)(y:eB K b I.heap)(x:gz K d I.heap)(s:Rep P w K (d::cC b) N I)
 (p:∀j n s1,(∀l m,Good F (g j (n.w l m)))->Rep P w K (d::cC b) n s1->cU (d::cC b) N I n s1->h j s1):ol (model P w) b c i (leafOf r) a I h:=by
 cases a with
 |nil=>
  rintro t rfl q;exact⟨.ret r,I,Runs.leaf r,rfl,p (.ret r) N I k s (.refl ..)⟩
 |cons v a=>
  cases v with
  |gen=>exact(sb (by simp only[wO]) (k N.al N.sl)).elim
  |ret M L J Q o T O=>
   rintro t rfl q;obtain⟨j,H,C,A⟩:=jD D z k G y x s p (t.goto o) rfl (q.goto o);exact⟨j,H,Runs.pop r C,A⟩
theorem qX{p:Pos}(a2:dj g)
 (r:∀j k,Good F (iP e c a d (st.w j k) W g))(H:JP b e)(T:eB K b I.heap)(Q:gz K d I.heap)(t:Rep P w K (d::cC b) st I)
 (a1:∀O J s1,(∀j k,Good F (g O (J.w j k)))->Rep P w K (d::cC b) J s1->cU (d::cC b) st I J s1->h O s1):ol (model P w) b c p (denote table c) a I h:=by
 cases m:st.UN with
 |nil=>exact(sb (by simp only[iP,St.w,m]) (r st.al st.sl)).elim
 |cons i L=>
  cases s:Nat.ble (i.at c st.led st.lg).dep e with
  |false=>exact(sb (by simp only[iP,St.w,m,s]) (r st.al st.sl)).elim
  |true=>
   cases v:(i.at c st.led st.lg).start with
   |some ag=>exact(sb (by simp only[iP,St.w,m,s,v]) (r st.al st.sl)).elim
   |none=>
    cases o:collect i.pos (i.at c st.led st.lg).UM.pre st.led with
    |none=>exact(sb (by simp only[iP,St.w,m,s,v,gy,o]) (r st.al st.sl)).elim
    |some z=>
     cases x:dR i.Ve (i.at c st.led st.lg).UM.UR st.gl with
     |none=>exact(sb (by simp only[iP,St.w,m,s,v,gy,o,x]) (r st.al st.sl)).elim
     |some C=>
      cases D:fH st.led st.bl i.src (i.at c st.led st.lg).UM.UX with
      |none=>exact(sb (by simp only[iP,St.w,m,s,v,gy,o,x,D]) (r st.al st.sl)).elim
      |some A=>
       have M:∀l q j k,Good F (g ((i.at c st.led st.lg).res l q) (St.w ⟨(i.at c st.led st.lg).UM.new l q++ec i.pos ((i.at c st.led st.lg).UM.post l q) st.led,(i.at c st.led st.lg).UM.UW l q++dU i.Ve ((i.at c st.led st.lg).UM.UQ l q) st.gl,st.al,st.sl,W,st.use,L,(i.at c st.led st.lg).UM.US l q++st.bl,[.c c (i.at c st.led st.lg).code,.f a (i.at c st.led st.lg).fs,.n d (i.at c st.led st.lg).fr]++(z++(C++(A++(.st l::st.lg))))⟩ j k)):=λl q j k=>by
        have:=r (mR l j) (mR q k);simp only[iP,St.w,m,s,v,gy,o,x,D,ln,lr]at this;exact this
       have a7:i0 ⟨(i.at c st.led st.lg).UM.new st.al st.sl++ec i.pos ((i.at c st.led st.lg).UM.post st.al st.sl) st.led,(i.at c st.led st.lg).UM.UW st.al st.sl++dU i.Ve ((i.at c st.led st.lg).UM.UQ st.al st.sl) st.gl,st.al,st.sl,W,st.use,L,(i.at c st.led st.lg).UM.US st.al st.sl++st.bl,[.c c (i.at c st.led st.lg).code,.f a (i.at c st.led st.lg).fs,.n d (i.at c st.led st.lg).fr]++(z++(C++(A++(.st st.al::st.lg))))⟩:=
        (M st.al st.sl st.al st.sl).sub λl a5=>a2 _ _ _ a5
       obtain⟨G,R,V,a8⟩:=vc a7;have Z:c=(i.at c st.led st.lg).code:=G _ (.head _);have a0:a=(i.at c st.led st.lg).fs:=G _ (.tail _ (.head _));have y:d=(i.at c st.led st.lg).fr:=G _ (.tail _ (.tail _ (.head _)));have af:(i.at c st.led st.lg).dep<=e:=Nat.le_of_ble_eq_true s;have aa:gb P w K (i.at c st.led st.lg):=t.UN i (by rw[m];exact .head _) c _ _;have Y:=aa b h I ⟨H.hd,by have:=H.dep;omega,by have:=H.U9;omega⟩ T (y▸Q) t.base t.bare (yu t o x D R V a8 λae a3=>by rw[y];exact a3) λj k s1 N=>by
        rw[<-y]at N;obtain⟨a9,X⟩:=vb (st1:=⟨(i.at c st.led st.lg).UM.new j k++ec i.pos ((i.at c st.led st.lg).UM.post j k) st.led,(i.at c st.led st.lg).UM.UW j k++dU i.Ve ((i.at c st.led st.lg).UM.UQ j k) st.gl,st.al,st.sl,W,st.use,L,(i.at c st.led st.lg).UM.US j k++st.bl,[.c c (i.at c st.led st.lg).code,.f a (i.at c st.led st.lg).fs,.n d (i.at c st.led st.lg).fr]++(z++(C++(A++(.st j::st.lg))))⟩) t o x R V N (Ra T Q) rfl rfl t.use (λab a4=>t.UN ab (by rw[m];exact .tail _ a4)) rfl
        exact a1 _ _ s1 (M j k) a9 X
       rw[v,Option.getD_none,<-Z,<-a0]at Y;exact λac o a6=>Y ac p o a6
theorem w7(V:ft P w K F .own f)(C:ly P w K F .own f):ly P w K F .own (f+1):=by
 intro N Q l a3 q J d L r g G x M k p o I n z;have g:∀a b,Good F (ez .own ⟨P,w.params⟩ (iter K .own ⟨P,w.params⟩ f) N Q l a3 q J (d.w a b) L):=g;have H:(∀a b,ez .own ⟨P,w.params⟩ (iter K .own ⟨P,w.params⟩ f) N Q l a3 q J (d.w a b) L=none)->ol (model P w) G Q l a3 q x M:=λY=>(sb (Y d.al d.sl) (g d.al d.sl)).elim
 have a5:∀{os a6},∀h a1 s1,(∀a b,Good F (L h (a1.w a b)))->Rep P w K (J::cC G) a1 s1->cU (J::cC G) ⟨d.led,d.gl,d.al,d.sl,os,d.use,d.UN,d.bl,a6⟩ x a1 s1->M h s1:=λ{os a6} h a1 s1 O aj ab=>z h a1 s1 O aj (cU.trans (st1:=⟨d.led,d.gl,d.al,d.sl,os,d.use,d.UN,d.bl,a6⟩) (.same x rfl rfl) ab)
 have ae:∀c:Ctx,c.code=Q->c.Woken G->(c.over q).handled=none:=λc aa i=>by
  have:=(i.over q).1;rw[this];show(marksOver q (G.handled,G.handled)).1=none;rw[i8 I.plain];exact k.hd
 cases a3 with
 |pure a0=>
  cases a0 with
  |done a0=>exact vh (r:= .ok a0) C r g k p o n z
  |again A=>
   cases R:A.quiet with
   |false=>exact H λa b=>by simp only[ez,R]
   |true=>
    rcases s:d.UT with _|⟨_|_|af,os⟩
    ·exact H λa b=>by simp only[ez,R,St.w,s]
    ·rintro c rfl i;obtain⟨h,y,v,t⟩:=jD (st:={d with UT:=os}) C r (λa b=>by
      have:=g a b;simp only[ez,R,St.w,s]at this;exact this) k p o (n.same rfl rfl rfl rfl) a5 (c.goto A) rfl (i.goto A)
     exact⟨h,y,Runs.head (c₁:=A) (λ_ _ D=>.again R D) v,t⟩
    ·rintro c rfl i;obtain⟨h,y,v,t⟩:=qX (p:=l) r (λa b=>by
      have:=g a b;simp only[ez,R,St.w,s]at this;exact this) k p o n z (c.goto A) rfl (i.goto A)
     exact⟨h,y,Runs.head (c₁:=A) (λ_ _ D=>.again R D) v,t⟩
    ·exact H λa b=>by simp only[ez,R,St.w,s]
 |raise h=>exact vh (r:= .error h) C r g k p o n z
 |«yield» a9 T W e=>
  cases T with
  |true=>exact H λa b=>by simp only[ez]
  |false=>
   cases O:splitAtGen q with
   |some al=>exact H λa b=>by simp only[ez,O]
   |none=>
    cases Y:q.any Frame.guarded with
    |true=>exact H λa b=>by simp only[ez,O,Y]
    |false=>
     have a4:∀a b,Good F (L (.susp a9 false W e Q l q) (d.w a b)):=λa b=>by
      have:=g a b;simp only[ez,O,Y]at this;exact this
     rintro c rfl i;exact⟨_,x,Runs.yield' q O,by simp[End.quiet,Y],z _ d x a4 n (.refl ..)⟩
 |«at» ah e=>
  rintro c rfl i;obtain⟨h,y,v,t⟩:=C N c.code ah (e ()) q J d L r g G x M k p o I n z c rfl i;exact⟨h,y,Runs.head' (λ_ _ D=>.at D) v,t⟩
 |rule ak e=>
  rintro c rfl i;obtain⟨h,y,v,t⟩:=C N c.code l (e ()) q J d L r g G x M k p o I n z c rfl i;exact⟨h,y,Runs.head' (λ_ _ D=>.rule D) v,t⟩
 |point W e=>
  rintro c rfl i;obtain⟨h,y,v,t⟩:=C N c.code l (e ()) q J d L r g G x M k p o I n z c rfl i;exact⟨h,y,Runs.head' (λ_ _ D=>.point D) v,t⟩
 |ask e=>
  rintro c rfl i;obtain⟨h,y,v,t⟩:=C N c.code l (e ⟨P,w.params⟩) q J d L r g G x M k p o I n z c rfl i;exact⟨h,y,Runs.head' (λ_ _ D=>.ask D) v,t⟩
 |handled ag e=>
  cases ag with
  |true=>exact H λa b=>by simp only[ez]
  |false=>
   rintro c aa i;subst aa;have ac:=ae c rfl i;obtain⟨h,y,v,t⟩:=C N c.code l (e none) q J d L r g G x M k p o I n z c rfl i;exact⟨h,y,Runs.head' (λ_ _ D=>.handled (own:=false) (by simp only[Bool.false_eq_true,if_false,ac];exact D)) v,t⟩
 |load Z a8 e=>exact hX (m:= .load Z a8 .pure) (k:=e) V C (λc X E l x j=>by
   obtain⟨a7,s,j⟩:=j;exact⟨a7,s,rfl,j⟩) r g k p o I n z
 |loadIfAlive Z e=>exact hX (m:= .loadIfAlive Z .pure) (k:=e) V C (λc X E l x j=>⟨rfl,j⟩) r g k p o I n z
 |update Z a8 a0 e=>exact hX (m:= .update Z a8 a0 .pure) (k:=e) V C (λc X E l x j=>⟨j.1,rfl,j.2⟩) r g k p o I n z
 |alloc a7 e=>exact hX (m:= .alloc a7 .pure) (k:=e) V C (λc X E l x j=>⟨rfl,j⟩) r g k p o I n z
 |fresh e=>exact hX (m:= .fresh .pure) (k:=e) V C (λc X E l x j=>⟨rfl,j⟩) r g k p o I n z
 |call A j T W e=>
  have a2:(∀a b,Good F (jR (iter K .own ⟨P,w.params⟩ f) N Q l q J (.call A j T W .pure) e (d.w a b) L))->ol (model P w) G Q l (.call A j T W e) q x M:=λa4=>
   hX (m:= .call A j T W .pure) (k:=e) V C (λc X E l x j=>by
    obtain⟨ai,s1,O,Y⟩:=j;exact⟨ai,s1,O,rfl,Y⟩) r a4 k p o I n z
  rcases s:d.UT with _|⟨_|_|_|_|af,os⟩
  ·exact a2 λa b=>by have:=g a b;simp only[ez,St.w,s]at this|-;exact this
  ·exact a2 λa b=>by have:=g a b;simp only[ez,St.w,s]at this|-;exact this
  ·exact a2 λa b=>by have:=g a b;simp only[ez,St.w,s]at this|-;exact this
  ·cases j with
   |some a9=>exact H λa b=>by simp only[ez,St.w,s]
   |none=>
    cases T with
    |true=>exact H λa b=>by simp only[ez,St.w,s]
    |false=>
     rintro c rfl i;obtain⟨h,y,v,t⟩:=jD (st:={d with UT:=os}) C r (λa b=>by
      have:=g a b;simp only[ez,St.w,s]at this;exact this) k p o (n.same rfl rfl rfl rfl) a5 (c.goto A) rfl (i.goto A)
     exact⟨h,y,runs_call_seg v,t⟩
  ·cases j with
   |some a9=>exact H λa b=>by simp only[ez,St.w,s]
   |none=>
    cases T with
    |true=>exact H λa b=>by simp only[ez,St.w,s]
    |false=>
     rintro c rfl i;obtain⟨h,y,v,t⟩:=qX (st:={d with UT:=os}) (p:=l) r (λa b=>by
      have:=g a b;simp only[ez,St.w,s]at this;exact this) k p o (n.same rfl rfl rfl rfl) a5 (c.goto A) rfl (i.goto A)
     exact⟨h,y,runs_call_seg v,t⟩
  ·exact a2 λa b=>by have:=g a b;simp only[ez,St.w,s]at this|-;exact this
 |unsupported|finish|register|choose|os|genState|newGen|resume|stack|fork|thread|await=>exact H λa b=>by simp only[ez]
theorem l1(f:lx P w K):∀n,ft P w K F .own n/\pD P w K F .own n/\BodyOk P w K F .own n/\ly P w K F .own n
 |0=>⟨λ_ _ _ a _ _ b=>(sb (by simp only[iter]) (b a.al a.sl)).elim,λ_ _ _ a _ _ b=>(sb (by simp only[iter]) (b a.al a.sl)).elim,λ_ _ _ _ a _ _ b=>(sb (by simp only[iter]) (b a.al a.sl)).elim,λ_ _ _ _ _ _ a _ _ b=>(sb (by simp only[iter]) (b a.al a.sl)).elim⟩
 |n+1=>by
  obtain⟨c,d,e,g⟩:=l1 f n;exact⟨wX c d,w5 f c d e,w0 c e,w7 c g⟩
end
end
section
def XF:gj:=⟨PySem.W.Fast.tw11892475500146522536 PySem.W.Fast.tw14364793385576792824,PySem.W.Fast.tw9782568553167038054,λn h f c m a e d=>PySem.W.Fast.tw11113344188204177931 n h f c m a e none d,PySem.W.Fast.tw12563942051412417395,
 PySem.W.Fast.tw14044960220447912780,PySem.W.Fast.tw5670386056902412789,PySem.W.Fast.tw14206642085496868694,PySem.W.Fast.tw11471732733879165300,PySem.W.Fast.tw12362719219628433562,PySem.W.Fast.tw15207555903498437823,PySem.W.Fast.tw1180062409338748621,PySem.W.Fast.tw8468629109055619292,PySem.W.Fast.tw10380811246957099773,λa i=>PySem.W.Fast.tw11478286150595567475 a i,λk j b l g o=>PySem.W.Fast.tw13401596951702201221 k j b l g o 0 [] [],PySem.W.Fast.tw4777696345729990297,PySem.W.Fast.tw15112477048112897374,
 Cf PySem.W.Fast.tw12456147031677567982 PySem.W.Fast.tw5670386056902412789 PySem.W.Fast.tw7536695828754713326,
 Cg PySem.W.Fast.tw12456147031677567982 PySem.W.Fast.tw5670386056902412789 PySem.W.Fast.tw17359229931016689406 PySem.W.Fast.tw14044960220447912780 PySem.W.Fast.tw13596814643533388497 PySem.W.Fast.tw17858455048448223758 PySem.W.Fast.tw10380811246957099773 PySem.W.Fast.tw8847407001960458596 PySem.W.Fast.tw8857416407483246691,
 GZ PySem.W.Fast.tw12456147031677567982 PySem.W.Fast.tw17359229931016689406 PySem.W.Fast.tw12194477576918160588 PySem.W.Fast.tw12367529300394763782 PySem.W.SL.s17444311836927434715x13,
 Ci PySem.W.Fast.tw12456147031677567982 PySem.W.Fast.tw5670386056902412789 PySem.W.Fast.tw7536695828754713326 PySem.W.Fast.tw14851354246082423155 PySem.W.Fast.tw17359229931016689406 PySem.W.Fast.tw6609576154772507232 PySem.W.R.onRaiseR⟩
theorem G1:MR=Cf PySem.W.Fast.tw12456147031677567982 PySem.W.Fast.tw5670386056902412789 PySem.W.Fast.tw7536695828754713326:=by rw[<-PySem.W.Fast.te12456147031677567982,<-PySem.W.Fast.te5670386056902412789,<-PySem.W.Fast.te7536695828754713326];rfl
theorem G2:MS=Cg PySem.W.Fast.tw12456147031677567982 PySem.W.Fast.tw5670386056902412789 PySem.W.Fast.tw17359229931016689406 PySem.W.Fast.tw14044960220447912780 PySem.W.Fast.tw13596814643533388497 PySem.W.Fast.tw17858455048448223758 PySem.W.Fast.tw10380811246957099773 PySem.W.Fast.tw8847407001960458596 PySem.W.Fast.tw8857416407483246691:=by rw[<-PySem.W.Fast.te12456147031677567982,<-PySem.W.Fast.te5670386056902412789,<-PySem.W.Fast.te14044960220447912780,<-PySem.W.Fast.te13596814643533388497,<-PySem.W.Fast.te17858455048448223758,<-PySem.W.Fast.te10380811246957099773,<-PySem.W.Fast.te8847407001960458596,<-PySem.W.Fast.te8857416407483246691,<-PySem.W.Fast.te17359229931016689406];rfl
theorem G3:MT=GZ PySem.W.Fast.tw12456147031677567982 PySem.W.Fast.tw17359229931016689406 PySem.W.Fast.tw12194477576918160588 PySem.W.Fast.tw12367529300394763782 PySem.W.SL.s17444311836927434715x13:=by rw[<-PySem.W.Fast.te12456147031677567982,<-PySem.W.Fast.te12194477576918160588,<-PySem.W.Fast.te12367529300394763782,show PySem.W.SL.s17444311836927434715x13= "proto.unchain" by decide,<-PySem.W.Fast.te17359229931016689406];rfl
theorem G4:MU=Ci PySem.W.Fast.tw12456147031677567982 PySem.W.Fast.tw5670386056902412789 PySem.W.Fast.tw7536695828754713326 PySem.W.Fast.tw14851354246082423155 PySem.W.Fast.tw17359229931016689406 PySem.W.Fast.tw6609576154772507232 PySem.W.R.onRaiseR:=by rw[<-PySem.W.Fast.te12456147031677567982,<-PySem.W.Fast.te5670386056902412789,<-PySem.W.Fast.te7536695828754713326,<-PySem.W.Fast.te14851354246082423155,<-PySem.W.Fast.te6609576154772507232,<-PySem.W.Fast.te17359229931016689406,<-PySem.W.R.onRaiseR_eq];rfl
theorem l2:gj.own=XF:=by
 unfold gj.own XF;rw[G1,G2,G3,G4];rw[<-PySem.W.Fast.te11892475500146522536,<-PySem.W.Fast.te14364793385576792824,<-PySem.W.Fast.te9782568553167038054,<-PySem.W.Fast.te11113344188204177931,<-PySem.W.Fast.te12563942051412417395,
  <-PySem.W.Fast.te14044960220447912780,<-PySem.W.Fast.te5670386056902412789,<-PySem.W.Fast.te14206642085496868694,<-PySem.W.Fast.te11471732733879165300,<-PySem.W.Fast.te12362719219628433562,<-PySem.W.Fast.te15207555903498437823,<-PySem.W.Fast.te1180062409338748621,<-PySem.W.Fast.te8468629109055619292,<-PySem.W.Fast.te10380811246957099773,<-PySem.W.Fast.te11478286150595567475,<-PySem.W.Fast.te13401596951702201221,<-PySem.W.Fast.te15112477048112897374,<-PySem.W.Fast.te4777696345729990297,PySem.table_eq_tree]
section
variable {R0 β:Type}
def mB(c:WA (R0×St))(d:R0->St->β):WA (β×Wy g8):=match c with
 |some (b,a)=>some (d b a,a.lg.map g8.lf)
 |none=>none
def gL(b:WA (R0×St))(a:β):WA (β×Wy g8):=match b with
 |some (_,c)=>some (a,c.lg)
 |none=>some (a,[])
theorem gM{a:WA (R0×St)}{c:R0->St->β}{b:β}(g:mB a c=gL a b):Good (λi j=>c i j=b) a:=by
 cases a with
 |none=>cases g
 |some n=>
  obtain⟨i,j⟩:=n;simp only[mB,gL,Option.some.injEq,Prod.mk.injEq]at g;obtain⟨k,l⟩:=g;refine⟨i,j,rfl,λd f=> ?_,k⟩
  have:∀e:Wy g8,e.map g8.lf=e->∀d∈e,d.ok:=by
   intro e;induction e with
   |nil=>intro _ d f;cases f
   |cons o e m=>
    intro h d f;rw[List.map_cons,List.cons.injEq]at h;rcases t6 f with q|q
    ·subst q;exact g8.Wi h.1
    ·exact m h.2 d q
  exact this _ l d f
end
def dd(E:mw)(b:uh)(e:Wy yq)(d:Wy mQ)(a:AL)(c:SL):St:=⟨E.pre,E.UR,a,c,b,e,d,E.UX,[]⟩
def oM(c:cK):cK:=match c.fr with
 |true=>⟨c.addr,kA c.obj,true⟩
 |false=>c
def d2(c:uh)(d:St):Wy (WA cK):=c.map λb=>match d.led.reverse[b]? with
 |some a=>some (oM a)
 |none=>none
def dC(b:uh)(c:St):Wy (WA (Nat×WI)):=b.map λa=>c.gl.reverse[a]?
def dG(b:Wy f8)(a:St):Wy (WA jz):=b.map (j5 a.led a.bl)
def cI(E:mw)(b:AL)(c:SL):Wy cK:=(E.pre.zip (E.post b c)).map (λa=>⟨a.1.addr,a.2,a.1.fr⟩)++E.new b c
def tZ(E:mw)(a:AL)(c:SL):Wy (Nat×WI):=(E.UR.zip (E.UQ a c)).map (λb=>(b.1.1,b.2))++E.UW a c
def dz:Wy (Code->uk->Wy AL->Spec)->Wy (uh)->Wy (uh)->Wy (Wy f8)->Wy yq
 |f::c,d::e,b,a=>⟨f,d,b.headD [],a.headD []⟩::dz c e b.tail a.tail
 |_,_,_,_=>[]
def di:Wy (Code->uk->Wy AL->Seg)->Wy (uh)->Wy (uh)->Wy (Wy f8)->Wy mQ
 |f::c,d::e,b,a=>⟨f,d,b.headD [],a.headD []⟩::di c e b.tail a.tail
 |_,_,_,_=>[]
theorem eC{a:Wy (Code->uk->Wy AL->Spec)}:∀{c f:Wy (uh)} {e:Wy (Wy f8)},∀d∈dz a c f e,d.spec∈a:=by
 induction a with
 |nil=>intro c f e d b;simp[dz]at b
 |cons h a g=>
  intro c f e d b;cases c with
  |nil=>simp[dz]at b
  |cons c i=>
   simp only[dz]at b;rcases t6 b with rfl|b
   ·exact .head _
   ·exact .tail _ (g d b)
theorem ed{a:Wy (Code->uk->Wy AL->Seg)}:∀{c f:Wy (uh)} {e:Wy (Wy f8)},∀d∈di a c f e,d.seg∈a:=by
 induction a with
 |nil=>intro c f e d b;simp[di]at b
 |cons h a g=>
  intro c f e d b;cases c with
  |nil=>simp[di]at b
  |cons c i=>
   simp only[di]at b;rcases t6 b with rfl|b
   ·exact .head _
   ·exact .tail _ (g d b)
theorem oN{b:Type}{a:Wy b}(c:a.Nodup):a.reverse.Nodup:=List.pairwise_reverse.mpr (List.Pairwise.imp (λc=>Ne.symm c) c)
theorem hw{b c:Type}{f:b->c}:∀{l:Wy b},(l.map f).Nodup->∀{i j:Nat} {g e:b},l[i]?=some g->l[j]?=some e->f g=f e->i=j
 |[],_,_,_,_,_,r,_,_=>by simp at r
 |a::l,k,m,d,g,e,o,h,n=>by
  simp only[List.map_cons,List.nodup_cons]at k;cases m with
  |zero=>
   simp only[List.getElem?_cons_zero,Option.some.injEq]at o;cases d with
   |zero=>rfl
   |succ d=>
    have p:l[d]?=some e:=by simpa using h
    have:=t8 (f:=f) (t9 p);rw[<-n,<-o]at this;exact absurd this k.1
  |succ m=>
   have q:l[m]?=some g:=by simpa using o
   cases d with
   |zero=>
    simp only[List.getElem?_cons_zero,Option.some.injEq]at h;have:=t8 (f:=f) (t9 q);rw[n,<-h]at this;exact absurd this k.1
   |succ d=>
    have p:l[d]?=some e:=by simpa using h
    rw[hw (l:=l) k.2 (i:=m) (j:=d) q p n]
theorem lz{b c:Type}{f:b->c}{a:Wy b}(d:(a.map f).Nodup):∀{idx:uh} {cs:Wy b},(∀k,idx.map (λi=>a[i]?.map f)=k->k=cs.map (λe=>some (f e)))->idx.Nodup->(cs.map f).Nodup/\∀e∈cs,∃i∈idx,∃g,a[i]?=some g/\f g=f e
 |[],[],_,_=>⟨by simp,λe x=>by cases x⟩
 |[],_::_,d,_=>by have:=d _ rfl;simp at this
 |_::_,[],d,_=>by have:=d _ rfl;simp at this
 |i::idx,e::cs,s,j=>by
  have l:=s _ rfl;simp only[List.map_cons,List.cons.injEq]at l;obtain⟨e1,e2⟩:=l;obtain⟨D,G⟩:=List.nodup_cons.mp j;obtain⟨C,p⟩:=lz d (idx:=idx) (cs:=cs) (λk j=>j▸e2) G
  obtain⟨g,n,m⟩:=Option.map_eq_some_iff.mp e1;refine⟨?_,λI A=> ?_⟩
  ·rw[List.map_cons];refine List.nodup_cons.mpr ⟨λz=> ?_,C⟩
   obtain⟨r,y,t⟩:=ua z;obtain⟨o,h,J,v,w⟩:=p r y;have:=hw d n v (by rw[m,w,t]);exact D (this▸h)
  ·rcases t6 A with q|q
   ·subst q;exact⟨i,.head _,g,n,m⟩
   ·obtain⟨o,h,H⟩:=p I q;exact⟨o,.tail _ h,H⟩
section
variable {P:WJ} {w:WG} {K:Nat->WA gi}
theorem cR.bare{a:Heap}{c:cK}(b:cR a c):cR a (oM c):=by
 unfold oM;cases e:c.fr with
 |false=>exact b
 |true=>
  unfold cR at b|-;rw[e]at b;obtain⟨f,d⟩:=b;exact⟨f,d⟩
theorem m0(c:cK):(oM c).addr=c.addr:=by unfold oM;cases c.fr<;>rfl
theorem iq{E:mw}{a:SL}{s1:WF}{b:uh}{c:Wy f8}(j:Rep P w K Z N s1)(n:cU Z O I N s1)(z:O.led=E.pre)(A:O.gl=E.UR)
 (a2:W.Nodup)(V:b.Nodup)(a3:(E.post y a).length=E.pre.length)(X:(E.UQ y a).length=E.UR.length)
 (C:d2 W N=(cI E y a).map some)(D:dC b N=(tZ E y a).map some)(F:dG c N=(E.US y a).map some):eh E Z y a I s1:=by
 have a5:(N.led.reverse.map (·.addr)).Nodup:=by rw[List.map_reverse];exact oN j.nd
 have a1:(N.gl.reverse.map (·.1)).Nodup:=by rw[List.map_reverse];exact oN j.U6
 have a9:∀{W:uh} {cs:Wy cK},d2 W N=cs.map some->∀e∈cs,∃g∈N.led,oM g=e:=by
  intro W;induction W with
  |nil=>intro cs d e h;cases cs with|nil=>cases h|cons=>simp[d2]at d
  |cons k W s=>
   intro cs d e h;cases cs with
   |nil=>cases h
   |cons M cs=>
    simp only[d2,List.map_cons,List.cons.injEq]at d;rcases t6 h with q|q
    ·subst q;obtain⟨e1,_⟩:=d;split at e1
     ·rename_i g i;exact⟨g,List.mem_reverse.mp (t9 i),Option.some.inj e1⟩
     ·cases e1
    ·exact s (cs:=cs) d.2 e q
 have a8:∀{W:uh} {cs:Wy cK},d2 W N=cs.map some->W.map (λk=>N.led.reverse[k]?.map (·.addr))=cs.map (λe=>some e.addr):=by
  intro W;induction W with
  |nil=>intro cs d;cases cs with|nil=>rfl|cons=>simp[d2]at d
  |cons k W s=>
   intro cs d;cases cs with
   |nil=>simp[d2]at d
   |cons M cs=>
    simp only[d2,List.map_cons,List.cons.injEq]at d|-;obtain⟨e1,e2⟩:=d;refine⟨?_,s (cs:=cs) e2⟩;split at e1
    ·rename_i g i;rw[i,Option.map_some,<-Option.some.inj e1,m0]
    ·cases e1
 have L:=a9 C;obtain⟨t,_⟩:=lz (f:=cK.addr) a5 (idx:=W) (cs:=cI E y a) (λaa p=>p▸a8 C) a2
 have Y:b.map (λk=>N.gl.reverse[k]?.map (·.1))=(tZ E y a).map (λe=>some e.1):=by
  have:=congrArg (List.map (Option.map (·.1))) D;unfold dC at this;rw[List.map_map,List.map_map]at this;exact this
 obtain⟨o,_⟩:=lz (f:=Prod.fst) a1 (idx:=b) (cs:=tZ E y a) (λaa p=>p▸Y) V
 have x:∀e∈tZ E y a,e∈N.gl:=λe h=>by
  have:some e∈dC b N:=by rw[D];exact t8 h
  obtain⟨k,_,d⟩:=ua this;exact List.mem_reverse.mp (t9 d)
 have a4:((E.pre.zip (E.post y a)).map (λq=>(⟨q.1.addr,q.2,q.1.fr⟩:cK))).map (·.addr)=addrs E.pre:=by
  rw[List.map_map];have:((λm:cK=>m.addr) ∘λq:cK×gi=>(⟨q.1.addr,q.2,q.1.fr⟩:cK))=(λl:cK=>l.addr) ∘Prod.fst:=rfl
  rw[this,<-List.map_map,List.map_fst_zip (by omega)];rfl
 have a0:((E.UR.zip (E.UQ y a)).map (λq=>(q.1.1,q.2))).map (·.1)=eg E.UR:=by
  rw[List.map_map];have:((λm:Nat×WI=>m.1) ∘λq:(Nat×WI)×WI=>(q.1.1,q.2))=(λl:Nat×WI=>l.1) ∘Prod.fst:=rfl
  rw[this,<-List.map_map,List.map_fst_zip (by omega)];rfl
 unfold cI at t;rw[List.map_append,a4]at t;obtain⟨_,a6,a7⟩:=List.nodup_append.mp t;unfold tZ at o;rw[List.map_append,a0]at o;obtain⟨_,Q,T⟩:=List.nodup_append.mp o;have J:=n.step;rw[z,A]at J;refine⟨J,a3,λq r=> ?_,X,λq r=> ?_,λe h=> ?_,a6,λl H=> ?_,Q,λB R=> ?_,j.bare⟩
 ·obtain⟨g,i,d⟩:=L _ (ue _ (t8 (f:=λq:cK×gi=>(⟨q.1.addr,q.2,q.1.fr⟩:cK)) r))
  rw[<-d];exact(j.cell g i).bare
 ·exact j.gen _ (x _ (ue _ (t8 (f:=λq:(Nat×WI)×WI=>(q.1.1,q.2)) r)))
 ·obtain⟨g,i,d⟩:=L _ (uc _ h);have v:e.addr=g.addr:=by rw[<-d,m0]
  refine⟨by rw[<-d];exact(j.cell g i).bare, ?_⟩;rcases n.led g i with q|q
  ·rw[z]at q;exact absurd rfl (a7 _ q _ (v▸t8 (f:=cK.addr) h))
  ·rw[v];exact q
 ·have G:=x _ (uc _ H);refine⟨j.gen _ G, ?_⟩;rcases n.gl l G with q|q
  ·rw[A]at q;exact absurd rfl (T _ q _ (t8 (f:=Prod.fst) H))
  ·exact q
 ·have:some B∈dG c N:=by rw[F];exact t8 R
  obtain⟨m,_,d⟩:=ua this;exact jB j d
theorem e5{E:mw}{b:Wy yq}{a:Wy mQ}(h:AL)(m:SL)(d:d7 K E Z I)(j:gq K I.heap)(i:AllBare I.gens)(l:∀g∈b,∀c f Z,ct P w K (g.spec c f Z))(k:∀g∈a,∀c f Z,gb P w K (g.seg c f Z)):
  Rep P w K Z (dd E W b a h m) I:=
 ⟨λc e=>(d.pre c e).1,d.nd,λc e=>(d.pre c e).2.1,λc e=>(d.pre c e).2.2,j,d.UR,d.U6,i,l,k,d.UX⟩
abbrev Hl(a:mw):Prop:=∀b c,(a.post b c).length=a.pre.length
abbrev Hg(a:mw):Prop:=∀b c,(a.UQ b c).length=a.UR.length
variable {a:Type}
abbrev Hq(g:WA (a×St))(i h:uh)(c:Wy f8)(k:a)(d:mw)(b:AL)(e:SL):Prop:=mB g (λj f=>(j,d2 i f,dC h f,dG c f))=gL g (k,(cI d b e).map some,(tZ d b e).map some,(d.US b e).map some)
abbrev Gq(j:AL->SL->a)(e:mw)(h g:uh)(c:Wy f8):a->St->Prop:=λi f=>∃b d,(i,d2 h f,dC g f,dG c f)=(j b d,(cI e b d).map some,(tZ e b d).map some,(e.US b d).map some)
theorem yA(N:lx P w K){S:Spec}(m:Nat)(n:uh)(f:Wy yq)(e:Wy mQ)(l j:uh)(x:Wy f8)(s:AL->SL->AL)(v:AL->SL->SL)
 (X:∀p∈f,∀g o i,ct P w K (p.spec g o i))(W:∀p∈e,∀g o i,gb P w K (p.seg g o i))
 (A:∀a b,Hq ((iter K XF ⟨P,w.params⟩ m).c S.dep ⟨none,S.top⟩ S.code (dd S.UM n f e a b) λd c=>some (d,c)) l j x (S.res (s a b) (v a b)) S.UM (s a b) (v a b))
 (F:jA S.code=false)(T:l.Nodup)(O:j.Nodup)(Y:Hl S.UM)(Q:Hg S.UM):ct P w K S:=by
 intro z R a3 a1 L G D V k;have r:∀a b,Good (Gq S.res S.UM l j x) ((iter K XF ⟨P,w.params⟩ m).c S.dep ⟨none,S.top⟩ S.code (dd S.UM n f e a b) λd c=>some (d,c)):=λa b=>by
  obtain⟨t,c,h,a0,J⟩:=gM (A a b);exact⟨t,c,h,a0,_,_,J⟩
 rw[<-l2]at r;rw[oF F];refine(l1 N m).2.1 S.dep ⟨none,S.top⟩ S.code (dd S.UM n f e (λ_=>0) (λ_=> #[])) _ ?_ r z a3 R a1 L (e5 _ _ V G D X W) λa5 y s1 M a2 H=> ?_
 ·intro d c a6 Z;cases Z;exact λ_ k=>k
 ·obtain⟨t,c,h,_,C,a4,q⟩:=M y.al y.sl;cases h;simp only[Prod.mk.injEq]at q;obtain⟨e1,e2,e3,I⟩:=q;rw[e1];exact k C a4 s1 (iq a2 H rfl rfl T O (Y _ _) (Q _ _) e2 e3 I)
theorem w8(V:lx P w K){S:Spec}{a:Wy Stmt}(W:S.code= .block a X)(q:Nat)(r:uh)(j:Wy yq)(i:Wy mQ)(p n:uh)(I:Wy f8)(A:AL->SL->AL)(H:AL->SL->SL)
 (a5:∀v∈j,∀k s m,ct P w K (v.spec k s m))(a4:∀v∈i,∀k s m,gb P w K (v.seg k s m))
 (L:∀c d,Hq ((iter K XF ⟨P,w.params⟩ q).b S.dep ⟨none,S.top⟩ a X (dd S.UM r j i c d) λh e=>some (h,e)) p n I (S.res (A c d) (H c d)) S.UM (A c d) (H c d))
 (a1:p.Nodup)(Z:n.Nodup)(a2:Hl S.UM)(a0:Hg S.UM):ct P w K S:=by
 intro x R G g Y O N a3 o;have z:∀c d,Good (Gq S.res S.UM p n I) ((iter K XF ⟨P,w.params⟩ q).b S.dep ⟨none,S.top⟩ a X (dd S.UM r j i c d) λh e=>some (h,e)):=λc d=>by
  obtain⟨D,e,f,a7,l⟩:=gM (L c d);exact⟨D,e,f,a7,_,_,l⟩
 rw[<-l2]at z;rw[W];show wpAny (model P w) x (execs a X) (λl t=>R (.ok l) t) (λf t=>R (.error f) t) G
 refine(l1 V q).2.2.1 S.dep ⟨none,S.top⟩ a X (dd S.UM r j i (λ_=>0) (λ_=> #[])) _ ?_ z x G _ _ ⟨g.hd,g.top,by have:=g.dep;omega,by have:=g.U9;omega⟩ Y (e5 _ _ a3 O N a5 a4) λa8 J s1 F a9 Q=> ?_
 ·intro h e ab a6;cases a6;exact λ_ o=>o
 ·obtain⟨D,e,f,_,M,aa,y⟩:=F J.al J.sl;cases f;simp only[Prod.mk.injEq]at y;obtain⟨e1,e2,e3,T⟩:=y;have C:=o M aa s1 (iq a9 Q rfl rfl a1 Z (a2 _ _) (a0 _ _) e2 e3 T);rw[<-e1]at C;cases a8<;>exact C
theorem Cu(Q:lx P w K){S:Seg}(o:Nat)(p:uh)(h:Wy yq)(f:Wy mQ)(n l:uh)(z:Wy f8)(v:AL->SL->AL)(y:AL->SL->SL)
 (a2:∀r∈h,∀i q k,ct P w K (r.spec i q k))(Z:∀r∈f,∀i q k,gb P w K (r.seg i q k))(g:Sem PySem.Fin)(a0:S.start.getD (XF.den S.code)=g)
 (C:∀e a b,Hq (eL (iter K XF ⟨P,w.params⟩ o) S.dep S.code e g S.fs S.fr (dd S.UM p h f a b) λd c=>some (d,c)) n l z (S.res (v a b) (y a b)) S.UM (v a b) (y a b))
 (V:n.Nodup)(Y:l.Nodup)(W:Hl S.UM)(F:Hg S.UM):gb P w K S:=by
 intro aa R ac a6 N M H G X m;have a1:S.start.getD (denote table S.code)=g:=by rw[<-a0,<-l2];rfl
 rw[a1];intro a9 e T a4;have t:∀a b,Good (Gq S.res S.UM n l z) (eL (iter K XF ⟨P,w.params⟩ o) S.dep S.code e g S.fs S.fr (dd S.UM p h f a b) λd c=>some (d,c)):=λa b=>by
  obtain⟨x,c,j,a5,L⟩:=gM (C e a b);exact⟨x,c,j,a5,_,_,L⟩
 rw[<-l2]at t;refine jD (st:=dd S.UM p h f (λ_=>0) (λ_=> #[])) (l1 Q o).2.2.2 (λd c ae a3=>by
  cases a3;exact λ_ m=>m) t a6 N M (e5 _ _ X H G a2 Z) (λab A s1 O a7 I=> ?_) a9 T a4
 obtain⟨x,c,j,_,D,a8,s⟩:=O A.al A.sl;cases j;simp only[Prod.mk.injEq]at s;obtain⟨e1,e2,e3,J⟩:=s;rw[e1];exact m D a8 s1 (iq a7 I rfl rfl V Y (W _ _) (F _ _) e2 e3 J)
end
end
variable {J:WF} {x:Wz}
section
def ey(a:Nat)(b c:Wz):gi:=⟨.type "generator",none,.fields #[.int a 0,b,c],#[]⟩
def yv:End->Wz
 | .susp a .. =>a
 |_=>.none
def qY:End->Bool
 | .susp .. =>true
 |_=>false
def gN(f c:Nat)(d e:Wz)(g:WI)(S:Seg):mw:=⟨⟨f,ey c d e,false⟩::S.UM.pre,(c,g)::S.UM.UR,λa b=>ey c d e::S.UM.post a b,λa b=>(S.res a b).genState::S.UM.UQ a b,S.UM.new,S.UM.UW,S.UM.UX,S.UM.US⟩
def yB(a c:Nat)(d e:Wz)(g:WI)(S:Seg):Spec:=⟨.builtin "generator.__next__" ⟨[.ref a],[]⟩,S.dep+30,none,gN a c d e g S,λb f=>.ok (.ret (yv (S.res b f)))⟩
def ha(b:WI)(S:Seg):Prop:=(b= .fresh S.code/\S.start=none/\S.fs=[])\/(∃a d e c,b= .suspended a d S.code e S.fs c/\S.start=some (a (.send .none)))
section
variable {P:WJ} {w:WG} {K:Nat->WA gi}
variable {c:WH->WF->Prop}
theorem dY{a:String}{B:Builtin}{b:Args}(l:plainId a=true)(k:entryFor table a=some B)
 (j:wpAny (model P w) F.in1 (B b) (λi d=>match i with| .done h=>c (.ok h) d| .again e=>e.quiet=true/\codeAny (model P w) F e c d) (λg d=>c (.error g) d) I):codeAny (model P w) F (.builtin a b) c I:=by
 refine codeAny_of_tree ?_;show wpAny _ (F.under (.builtin a b)) (match entryFor table a with|some f=>f b|none=>unsupported ((withoutEnding? a "#data").getD a)) _ _ I
 rw[k,Around.under_plainId l];exact j
variable {b:WI}
theorem j8{z:WI}(c:I.gens[a]?=some z):(I.setGen a b).gens[a]?=some b:=by
 have d:=(Array.getElem?_eq_some_iff.mp c).1;unfold Shared.setGen
 first
  |(simp[Array.getElem?_setIfInBounds,d];done)
  |(simp[Array.getElem?_set,d];done)
  |(simp[Array.getElem?_modify,c];done)
theorem eD{c:Nat}(d:c≠a):(I.setGen a b).gens[c]?=I.gens[c]?:=by
 unfold Shared.setGen
 first
  |(simp[Array.getElem?_setIfInBounds,Ne.symm d];done)
  |(simp[Array.getElem?_set,Ne.symm d];done)
  |(simp[Array.getElem?_modify,Ne.symm d];done)
theorem l3(g:AllBare I.gens)(i:b.bare=true):AllBare (I.setGen a b).gens:=by
 intro k h;obtain⟨c,d⟩:=Array.mem_iff_getElem?.mp h
 by_cases e:c=a
 ·subst e
  by_cases f:c<I.gens.size
  ·rw[j8 (z:=I.gens[c]) (by simp[f])]at d;exact Option.some.inj d▸i
  ·have:(I.setGen c b).gens[c]?=none:=by
    have j:(I.setGen c b).gens.size=I.gens.size:=by unfold Shared.setGen;simp
    simp[j,f]
   rw[this]at d;cases d
 ·rw[eD e]at d;exact g k (Array.mem_iff_getElem?.mpr ⟨c,d⟩)
theorem Cv{a:End}(b:a.quiet=true):a.genState.bare=true:=by
 cases a with
 |ret i=>rfl
 |susp j e g f c h d=>
  simp only[End.quiet]at b;simp only[End.genState];unfold GenState.bare
  first|exact b|(simp at b|-;exact b)|(simp[b])
variable {g:SL}
theorem Cw{S:Seg}{s1:WF}(L:∃i,(⟨S.fr,i,true⟩:cK)∈S.UM.pre)(k:d7 K (gN d a v x b S) (cC F) I)(R:(S.res y g).quiet=true)
 (h:eh S.UM (S.fr::cC F) y g (I.setGen a .running) s1):eh (gN d a v x b S) (cC F) y g I (s1.setGen a (S.res y g).genState):=by
 obtain⟨a0,T⟩:=L;have q:S.fr∈addrs S.UM.pre:=t8 (f:=cK.addr) T;have Q:(d::addrs S.UM.pre).Nodup:=k.nd;obtain⟨r,Z⟩:=List.nodup_cons.mp Q;have M:(a::eg S.UM.UR).Nodup:=k.U6;obtain⟨s,_⟩:=List.nodup_cons.mp M;have N:I.gens[a]?=some b:=k.UR (a,b) (.head _);have p:(I.setGen a .running).gens[a]?=some .running:=j8 N;have H:s1.gens[a]?=some .running:=h.step.gens _ _ p s;have t:=k.pre ⟨d,ey a v x,false⟩ (.head _);refine⟨⟨λl i m z=> ?_,λl i m=>h.step.U7 l i m,h.step.os,λD X V A=> ?_⟩, ?_,λc n=> ?_, ?_,λc n=> ?_,h.new,h.VK,λG Y=> ?_,h.Vj,h.US,l3 h.bare (Cv R)⟩
 ·rcases h.step.chg l i m (λc=>z (.tail _ c))with c|⟨c,P⟩
  ·exact .inl c
  ·rcases t6 c with e|e
   ·exact absurd (.tail _ (e▸q)) z
   ·exact .inr ⟨e,P⟩
 ·have w:D≠a:=λe=>A (e▸ .head _)
  rw[eD w];exact h.step.gens D X (by rw[eD w];exact V) λc=>A (.tail _ c)
 ·show(S.UM.post y g).length+1=S.UM.pre.length+1;rw[h.len]
 ·have o:c∈(⟨d,ey a v x,false⟩,ey a v x)::S.UM.pre.zip (S.UM.post y g):=n;rcases t6 o with e|e
  ·subst e;have J:I.heap.get? d=some (ey a v x):=t.1;show s1.heap.get? d=some (ey a v x);rcases h.step.chg d _ J r with c|⟨c,_⟩
   ·exact c
   ·rcases t6 c with e|e
    ·exact absurd (e▸q) r
    ·exact absurd e (t.2.2 rfl)
  ·exact h.post c e
 ·show(S.UM.UQ y g).length+1=S.UM.UR.length+1;rw[h.Vi]
 ·have o:c∈((a,b),(S.res y g).genState)::S.UM.UR.zip (S.UM.UQ y g):=n;rcases t6 o with e|e
  ·subst e;exact j8 H
  ·have O:c.1.1∈eg S.UM.UR:=t8 (f:=Prod.fst) (List.of_mem_zip e).1;rw[eD (λ(e2:c.1.1=a)=>s (by rw[<-e2];exact O))]
   exact h.UQ c e
 ·obtain⟨W,j⟩:=h.UW G Y;have C:G.1≠a:=λe=>by rw[e,p]at j;cases j
  exact⟨by rw[eD C];exact W,by rw[eD C]at j;exact j⟩
def oO(b:Nat)(d:GenResult):Sem PySem.Fin:=match d with
 | .yielded a=>ret a
 | .returned a=>do
  if a== .none then raiseNew (<-newExc (.type "StopIteration") [])
  rule "generator.return-value";throw (<-newExc (.type "StopIteration") [a])
 | .raised c=>Builtin.Generator.genLeft (.ref b) c
 | .running=>do rule "generator.already-executing";raiseError "ValueError" "generator already executing"
 | .justStarted=>do rule "generator.send-to-fresh";raiseError "TypeError" "can't send non-None value to a just-started generator"
 | .finished=>do raiseNew (<-newExc (.type "StopIteration") [])
theorem w9{f:Model}{c:PySem.Fin->WF->Prop}{E:Wz->WF->Prop}(h:I.heap.IsGen d a)(i:I.gens[a]?=some b)(j:b.status= .fresh\/b.status= .suspended)
 (k:∀{c:Unit->WF->Prop} {E:Wz->WF->Prop},c () I->wpAny f F roomToWake c E I)(g:wpAny f F (.resume a (.send .none) [] (oO d)) c E I):wpAny f F (Builtin.«generator.__next__» ⟨[.ref d],[]⟩) c E I:=by show wpAny _ _ (Builtin.Generator.genWake (.ref d) (.send .none)) _ _ I;unfold Builtin.Generator.genWake;refine ci (wpAny_holding (wpAny_genNumber h (ci (wpAny_genState i ?_))));rcases j with e|e<;>rw[e]<;>exact ci (k g)
set_option maxHeartbeats 4000000 in
theorem lA{nm qn:Wz}{S:Seg}(X:∀i:Heap,gq K i->i.NoLimit)(ae:gb P w K S)(J:ha b S)(Z:∃N,(⟨S.fr,N,true⟩:cK)∈S.UM.pre/\ew N=true)(a8:∀l k,(S.res l k).quiet=true)
 {g:Nat}(ai:S.dep+30<=g)(x:MV F g ⟨none,none⟩)(R:eB K F I.heap)(A:gq K I.heap)(T:AllBare I.gens)(h:d7 K (gN d a nm qn b S) (cC F) I)
 (n:∀l k Q,eh (gN d a nm qn b S) (cC F) l k I Q->wpAny (model P w) F.in1 (oO d (S.res l k).result) (λn j=>∃o,n= .done o/\c (.ok o) j) (λe j=>c (.error e) j) Q):codeAny (model P w) F (.builtin "generator.__next__" ⟨[.ref d],[]⟩) c I:=by
  have aj:=x.dep;have ak:=x.U9;have a1:=(h.pre ⟨d,ey a nm qn,false⟩ (.head _)).1;have W:I.heap.get? d=some (ey a nm qn):=a1;have a0:I.heap.IsGen d a:=⟨_,nm,qn,W,rfl,rfl,rfl⟩;have D:I.gens[a]?=some b:=h.UR (a,b) (.head _);have e1:F.in1.frames=F.frames:=rfl;obtain⟨ac,v,a7⟩:=Z;have a2:(a::eg S.UM.UR).Nodup:=h.U6;obtain⟨a4,a3⟩:=List.nodup_cons.mp a2;have a6:(d::addrs S.UM.pre).Nodup:=h.nd;obtain⟨_,G⟩:=List.nodup_cons.mp a6;have Y:gz K S.fr I.heap:=by
    have:=h.pre _ (.tail _ v);obtain⟨k,i⟩:=this.1;exact⟨this.2.1,_,i,a7⟩
  have af:d7 K S.UM (S.fr::cC F.in1) (I.setGen a .running):=by
    refine⟨λr q=>⟨(h.pre r (.tail _ q)).1,(h.pre r (.tail _ q)).2.1,λt a5=> ?_⟩,G,λp H=> ?_,a3,h.UX⟩
    · rcases t6 a5 with e|e
      · have:=lw G q v e;rw[this]at t;cases t
      · exact(h.pre r (.tail _ q)).2.2 t (by rw[cB e1]at e;exact e)
    · have:p.1≠a:=λ(e:p.1=a)=>a4 (by rw[<-e];exact t8 (f:=Prod.fst) H)
      rw[eD this];exact h.UR p (.tail _ H)
  have ag:wpAny (model P w) F.in1 (Builtin.«generator.__next__» ⟨[.ref d],[]⟩) (λn j=>∃o,n= .done o/\c (.ok o) j) (λe j=>c (.error e) j) I:=by
    refine w9 a0 D ?_ (λi=>wpAny_roomToWake (X _ A) (by show F.depth<1000;omega) i) ?_
    · rcases J with⟨m,_⟩|⟨L,M,O,C,m,_⟩
      · exact .inl (by rw[m];rfl)
      · exact .inr (by rw[m];rfl)
    · refine λy p ab=>wake_any PySem.Fin P w (c₀:=S.code) (t₀:=S.start.getD (denote table S.code)) (fs₀:=S.fs) D ?_ (λy=>y.In F.in1) (λ_ i=>i) ?_ y p ab
      · rcases J with⟨m,s,V⟩|⟨L,M,O,C,m,s⟩
        · exact .inl ⟨m,rfl,by rw[s];rfl,V⟩
        · exact .inr ⟨L,M,O,C,m,by rw[s];rfl⟩
      · refine ae F.in1 _ (I.setGen a .running) ⟨x.hd,by show F.depth+_+_<=_;omega,by show F.units+1+_+_<=_;omega⟩ (R.under e1) Y A (l3 T rfl) af λl k s1 z=> ?_
        rw[cB e1]at z;exact n l k _ (Cw ⟨ac,v⟩ h (a8 l k) z)
  refine dY (by decide+kernel) entry_gen_next ?_;refine wpAny_mono ag (λn j aa=> ?_) λ_ _ ah=>ah
  obtain⟨o,rfl,a9⟩:=aa;exact a9
theorem l4{S:Seg}(q:∀f:Heap,gq K f->f.NoLimit)(C:gb P w K S)(y:ha b S)(r:∃j,(⟨S.fr,j,true⟩:cK)∈S.UM.pre/\ew j=true)(s:∀c e,(S.res c e).quiet=true)(t:∀c e,qY (S.res c e)=true):
  ct P w K (yB d a v x b S):=by
 intro D R O z o n m A f;refine lA q C y r s (Nat.le_refl _) z o n m A λc e k l=> ?_
 have p:=f c e k l;have h:=t c e;have g:R (.ok (.ret (yv (S.res c e)))) k:=p;cases i:S.res c e with
 |ret N=>rw[i]at h;cases h
 |susp Q I L J G M H=>
  rw[i]at g;exact cj ⟨_,rfl,g⟩
def eE(a:ug):gi:=⟨.type "tuple",none,.seq a 0,#[]⟩
def qZ(a:Nat):gi:=⟨.type "StopIteration",none,.fields #[.ref a,.none,.none,.none,.bool false,.none],#[]⟩
def pF(f c:Nat)(d e:Wz)(g:WI)(S:Seg):mw:=⟨⟨f,ey c d e,false⟩::S.UM.pre,(c,g)::S.UM.UR,λa b=>ey c d e::S.UM.post (cy (cy a)) b,λa b=>.finished::S.UM.UQ (cy (cy a)) b,λa b=>⟨a 1,qZ (a 0),false⟩::⟨a 0,eE #[],false⟩::S.UM.new (cy (cy a)) b,λa b=>S.UM.UW (cy (cy a)) b,S.UM.UX,λa b=>S.UM.US (cy (cy a)) b⟩
def hy(a c:Nat)(d e:Wz)(f:WI)(S:Seg):Spec:=⟨.builtin "generator.__next__" ⟨[.ref a],[]⟩,S.dep+30,none,pF a c d e f S,λb _=>.error (.ref (b 1))⟩
theorem gO{E E':mw}{al':AL}{a:WF}{c:cK}(b:eh E Z y g I J)(t:E'.pre=E.pre)(s:E'.UR=E.UR)(D:E'.post al' g=E.post y g)(w:E'.UQ al' g=E.UQ y g)
 (A:E'.new al' g=c::E.new y g)(v:E'.UW al' g=E.UW y g)(r:c.addr=J.heap.objs.size)(O:c.fr=false)(Q:c.obj.isFreed=false)(F:a={J with heap:=J.heap.push c.obj})(T:∀d i,I.heap.get? d=some i->d<J.heap.objs.size)(l:E'.US al' g=E.US y g:=by rfl):eh E' Z al' g I a:=by
 subst F;have m:∀d o,J.heap.get? d=some o->(J.heap.push c.obj).get? d=some o:=λd o k=>Heap.get?_push_of_some _ k
 have G:∀f:cK,cR J.heap f->cR (J.heap.push c.obj) f:=λf j=>by
  obtain⟨o,k,_⟩:=j.get;exact j.same ((m _ _ k).trans k.symm)
 refine⟨⟨λd i l z=> ?_,λd i l=> ?_,b.step.os,λV a0 R x=>b.step.gens V a0 R (by rw[s]at x;exact x)⟩,by rw[D,t];exact b.len,λh n=> ?_,by rw[w,s];exact b.Vi,λh n=> ?_,λf j=> ?_, ?_,λP C=> ?_,by rw[v];exact b.Vj,λB N=>eM.imp (λa1 H ⟨L,i,e,p,q⟩=>⟨L,i,e,m _ _ p,q⟩) (b.US B (l▸N)),b.bare⟩
 ·rcases b.step.chg d i l (by rw[t]at z;exact z)with h|⟨h,X,H⟩
  ·exact .inl (m _ _ h)
  ·exact .inr ⟨h,X,m _ _ H⟩
 ·obtain⟨W,p,q⟩:=b.step.U7 d i l;exact⟨W,m _ _ p,q⟩
 ·rw[D,t]at n;exact G _ (b.post h n)
 ·rw[w,s]at n;exact b.UQ h n
 ·rw[A]at j;rcases t6 j with e|e
  ·subst e;refine⟨?_, ?_⟩
   ·unfold cR;rw[O,r];exact Heap.get?_push_size _ Q
   ·cases h:I.heap.get? f.addr with
    |none=>rfl
    |some i=>have:=T _ _ h;rw[r]at this;exact absurd this (Nat.lt_irrefl _)
  ·exact⟨G _ (b.new f e).1,(b.new f e).2⟩
 ·rw[A];refine List.nodup_cons.mpr ⟨λY=> ?_,b.VK⟩
  obtain⟨f,j,e⟩:=ua Y;obtain⟨o,k,_⟩:=(b.new f j).1.get;have:=Heap.lt_size k;have M:f.addr=c.addr:=e;rw[M,r]at this;exact absurd this (Nat.lt_irrefl _)
 ·rw[v]at C;exact b.UW P C
theorem j9{S:Seg}(G:∀i:Heap,gq K i->i.NoLimit)(L:gb P w K S)(I:ha b S)(H:∃h,(⟨S.fr,h,true⟩:cK)∈S.UM.pre/\ew h=true)(n:∀e f,S.res e f= .ret (.ok (.ret .none))):
  ct P w K (hy d a v x b S):=by
 intro s R J r C A z k i;refine lA (nm:=v) (qn:=x) G L I H (λe f=>by rw[n];rfl) (Nat.le_refl _) r C A z ⟨k.pre,k.nd,k.UR,k.U6,k.UX⟩ λe f g p=> ?_
 rw[n];show wpAny _ _ (newExc (.type "StopIteration") []>>=_) _ _ _;refine ci ?_;simp only[newExc,newTuple];refine ci (wpAny_newObj_type ?_ (by size_fits));refine ci (m:=firstArgMember _ _) (wpAny_of_eq (a:=Value.none) (by first|rfl|(simp only[firstArgMember];rfl)) ?_);refine wpAny_newObj_type ?_ (by size_fits);simp only[raiseNew];refine ci (ci (wpAny_handled ?_));rw[show s.in1.handled=none from r.hd];refine wpAny_throw ?_;have q:∀j h,J.heap.get? j=some h->j<g.heap.objs.size:=λj h l=>by
  obtain⟨M,D,_⟩:=p.step.U7 j h l;exact Heap.lt_size D
 have o:∀(i:Heap) (h:gi),(i.push h).objs.size=i.objs.size+1:=λi h=>by first|exact Heap.size_push .. |simp[Heap.push]
 have t:=gO (E':=⟨(gN d a v x b S).pre,(gN d a v x b S).UR,λe f=>ey a v x::S.UM.post (cy (cy e)) f,λe f=>.finished::S.UM.UQ (cy (cy e)) f,λe f=>⟨e 0,eE #[],false⟩::S.UM.new (cy (cy e)) f,λe f=>S.UM.UW (cy (cy e)) f,S.UM.UX,λe f=>S.UM.US (cy (cy e)) f⟩)
  (al':=cons g.heap.objs.size (cons (g.heap.objs.size+1) e)) (c:=⟨g.heap.objs.size,eE #[],false⟩) p rfl rfl rfl (by show _=(S.res e f).genState::_;rw[n];rfl) rfl rfl rfl rfl rfl rfl q
 have y:=gO (E':=pF d a v x b S) (al':=cons g.heap.objs.size (cons (g.heap.objs.size+1) e)) (c:=⟨g.heap.objs.size+1,qZ g.heap.objs.size,false⟩) t rfl rfl rfl rfl rfl rfl (by show _=(g.heap.push (eE #[])).objs.size;rw[o]) rfl rfl rfl (λj h l=>by
  show j<(g.heap.push (eE #[])).objs.size;rw[o];exact Nat.lt_succ_of_lt (q j h l))
 have:=i _ _ _ y;have e2:(g.heap.push (eE #[])).objs.size=g.heap.objs.size+1:=o _ _;show R (.error (.ref (g.heap.push (eE #[])).objs.size)) _;rw[e2];exact this
end
end
structure WB where
 w:WG
 (b1 b2:Bool)
def W2(u:WB):WG:=⟨u.w.draws,{u.w.params with followText:=λa=>match PySem.W.S.strDecS a "special-get-raises" with
 | .isTrue _=>u.b1
 | .isFalse _=>match PySem.W.S.strDecS a "comprehension-iter-twice" with
  | .isTrue _=>u.b2
  | .isFalse _=>u.w.params.followText a}⟩
abbrev Pm(u:WB):WC:=(W2 u).params
theorem Cy(b:WG):W2 ⟨b,b.params.followText "special-get-raises",b.params.followText "comprehension-iter-twice"⟩=b:=by
 obtain⟨f,c⟩:=b;have e:(λa=>match PySem.W.S.strDecS a "special-get-raises" with
  | .isTrue _=>c.followText "special-get-raises"
  | .isFalse _=>match PySem.W.S.strDecS a "comprehension-iter-twice" with
   | .isTrue _=>c.followText "comprehension-iter-twice"
   | .isFalse _=>c.followText a)=c.followText:=by
  funext a;cases PySem.W.S.strDecS a "special-get-raises" with
  |isTrue d=>subst d;rfl
  |isFalse _=>
   cases PySem.W.S.strDecS a "comprehension-iter-twice" with
   |isTrue d=>subst d;rfl
   |isFalse _=>rfl
 unfold W2;dsimp only;simp only[e]
def walk:KT->Nat->Nat->Wy (Nat×gi)
 | .nil,_,_=>[]
 | .node f c e,a,b=>(match f with|some d=>[(b,d)]|none=>[])++(walk c (2*a) (a+b)++walk e (2*a) (2*a+b))
theorem ka{a:Heap}:∀(g:KT) (f c:Nat),(∀b∈walk g f c,a.get? b.1=some b.2)->KT.Holds a f c g
 | .nil,_,_,_=>trivial
 | .node l i k,f,c,d=>by
  refine⟨λj h=> ?_,ka i _ _ λb e=>d b ?_,ka k _ _ λb e=>d b ?_⟩
  ·exact d (c,j) (by unfold walk;rw[h];simp)
  ·unfold walk;exact uc _ (ue _ e)
  ·unfold walk;exact uc _ (uc _ e)
def yC(a:WC):Wy (Nat×gi):=[(393,KV a),(693,Lm a),(972,MO a)]
def yD(a:WC):Wy (Nat×gi):=walk (kt a) 1 0++yC a
def tj(a:uh)(b:WF):Wy (WA gi):=a.map b.heap.get?
def G5(c:uh)(b:SharedT):Wy (WA gi):=c.map λa=>match Nat.blt a b.n with
 |true=>(b.tree.get a).bind alive
 |false=>none
theorem ra{a:SharedT}:∀(d:Wy (Nat×gi)),G5 (d.map (·.1)) a=d.map (λc=>some c.2)->tj (d.map (·.1)) a.abs=d.map (λc=>some c.2)
 |[],_=>rfl
 |c::d,g=>by
  simp only[G5,List.map_cons,List.cons.injEq]at g;obtain⟨b,h⟩:=g;simp only[tj,List.map_cons,List.cons.injEq];refine⟨?_,ra d h⟩;cases e:Nat.blt c.1 a.n with
  |false=>rw[e]at b;cases b
  |true=>
   rw[e]at b;simp only at b;have i:c.1<a.n:=Nat.le_of_ble_eq_true e;cases f:a.tree.get c.1 with
   |none=>rw[f]at b;cases b
   |some j=>
    rw[f]at b;show(absHeap a.tree a.n a.life).get? c.1=_;rw[abs_get i f];exact b
def oP:uh:=MQ++[393,693,972]
theorem rg(a:WC):oP=(yD a).map (·.1):=by kernel_rfl
def Ya(b:WG):Wy (WA gi):=(yD b.params).map λa=>some a.2
def MW(b:WG)(c:OsState)(a:SharedT):=match staticsOk (importedModules PW.main.body) (boot_heap b.params) a.abs.heap && namesBound PW a.abs.heap && gensDone a.abs && laidKept (boot_heap b.params) a.abs.heap with
 |true=>some (PySem.W.Fast.tw4187177175401517315 QV pu (importedModules PW.main.body) (λ_=>true) true a.abs,G5 oP a)
 |false=>none
theorem T4:∀(a:WG) (b:OsState),(Qj PW a 11 (some (.ref 6)) 20000 (yl a.params b) (topStub PW)).bind (MW a b)=some (openGood QV pu,Ya a):=by intro a b;kernel_rfl
theorem MX:LeftO PW QV pu (λ_=>true) (tj oP) Ya 20000:=by
 refine Cd (ann:=some (.ref 6)) (by kernel_rfl) (by kernel_rfl) (λg=>by kernel_rfl) (λP=>by kernel_rfl) λc f=> ?_
 have d:=T4 c f;rw[<-ym]at d;obtain⟨sT,e,a⟩:=Option.bind_eq_some_iff.mp d;rw[e,Option.bind_some,wJ];unfold MW at a;unfold s6;simp only;revert a;cases staticsOk (importedModules PW.main.body) (boot_heap c.params) sT.abs.heap && namesBound PW sT.abs.heap && gensDone sT.abs && laidKept (boot_heap c.params) sT.abs.heap with
 |false=>intro b;cases b
 |true=>
  intro b;simp only[Option.some.injEq,Prod.mk.injEq]at b|-;refine⟨b.1, ?_⟩;have a:=b.2;unfold Ya at a|-;rw[rg c.params]at a|-;exact ra _ a
def KB(b:WG)(a:Nat):WA gi:=(kt b.params).get a
theorem pG{b:WG}{a:WF}(e:tj oP a=Ya b):gq (KB b) a.heap/\∀c∈yC b.params,a.heap.get? c.1=some c.2:=by
 unfold Ya tj at e;rw[rg b.params,List.map_map]at e;have f:∀c∈yD b.params,a.heap.get? c.1=some c.2:=λc d=>List.map_inj_left.mp e c d
 refine⟨λh i g=> ?_,λc d=>f c (uc _ d)⟩
 exact kt_at (ka _ _ _ λc d=>f c (ue _ d)) g
variable {q r:Int} {L:ui}
section
open PySem.Calls
def cm(b:ug)(a:Nat):gi:=⟨.type "list",none,.seq b a,#[]⟩
def pl(b:Wy (Nat×gi)):Wy cK:=b.map λa=>⟨a.1,a.2,false⟩
def kJ(a:Wy (Nat×gi)):mw:=⟨pl a,[],λ_ _=>a.map (·.2),nn,nn,nn,[],nn⟩
def fh(c:String)(b:ui)(d:Wy (Nat×gi))(e:(Nat->Nat)->Wz):Spec:=⟨.builtin c ⟨b,[]⟩,4,none,kJ d,λa _=>uj (e a)⟩
def Qn(a:Wy (Nat×gi))(c:gi):mw:=⟨pl a,[],λ_ _=>a.map (·.2),nn,λb _=>[⟨b 0,c,false⟩],nn,[],nn⟩
def FP(c:String)(b:ui)(e:Wy (Nat×gi))(d:gi):Spec:=⟨.builtin c ⟨b,[]⟩,4,none,Qn e d,λa _=>uj (.ref (a 0))⟩
section
variable {P:WJ} {w:WG} {K:Nat->WA gi}
theorem Step.toks{Z a b:Wy Addr}(e:WF)(f:Nat):Step Z a b e {e with toks:=f}:=⟨λ_ _ c _=>.inl c,λ_ d c=>⟨d,c,.refl d⟩,rfl,λ_ _ c _=>c⟩
theorem rh{a:Type}:∀(d:Wy a) (c:a×a),c∈d.zip d->c.1=c.2
 |[],c,b=>by cases b
 |y::d,c,b=>by
  rw[List.zip_cons_cons]at b;rcases t6 b with rfl|b
  ·rfl
  ·exact rh d c b
variable {b:Wy (Nat×gi)}
theorem yE{a:cK×gi}(c:a∈(pl b).zip (b.map (·.2))):a.1∈pl b/\a.2=a.1.obj/\a.1.fr=false:=by have f:=(List.of_mem_zip c).1;unfold pl at c;rw[List.zip_map]at c;obtain⟨d,g,e⟩:=ua c;have:=rh _ d g;subst e;exact⟨f,by show d.2.2=d.1.2;rw[this],rfl⟩
variable {sl:SL}
theorem gA{s1:WF}{al:AL}(m:d7 K (kJ b) Z I)(f:AllBare I.gens)(l:∃e,s1={I with toks:=e}):eh (kJ b) Z al sl I s1:=by
 obtain⟨e,rfl⟩:=l;refine⟨Step.toks I e,by simp[kJ,pl],λa d=> ?_,rfl,λa d=>by simp[kJ]at d,λg c=>by simp[kJ]at c,by simp[kJ,addrs],λg c=>by simp[kJ]at c,by simp[kJ,eg],λB k=>by simp[kJ]at k,f⟩
 obtain⟨i,j,n⟩:=yE d;have:=(m.pre a.1 i).1;have h:(⟨a.1.addr,a.2,a.1.fr⟩:cK)=a.1:=by rw[j]
 rw[h];exact this
variable {pre:Wy (Nat×gi)}
theorem m1{o:gi}{fs:Wy Addr}{s s1:WF}(h:d7 K (kJ pre) fs s)(d:AllBare s.gens)(f:o.isFreed=false)(g:∃a,s1={s with heap:=s.heap.push o,toks:=a}):eh (Qn pre o) fs (λ_=>s.heap.objs.size) sl s s1:=by
 obtain⟨a,rfl⟩:=g;have b:=gA (al:=λ_=>0) (sl:=sl) (s1:={s with toks:=a}) h d ⟨a,rfl⟩
 exact gO (E':=Qn pre o) (al':=λ_=>s.heap.objs.size) (c:=⟨s.heap.objs.size,o,false⟩) b rfl rfl rfl rfl rfl rfl rfl rfl f rfl λi o e=>Heap.lt_size e
theorem el(b:d7 K (kJ pre) Z I):∀a∈pre,I.heap.get? a.1=some a.2:=λa c=>(b.pre ⟨a.1,a.2,false⟩ (t8 (f:=λb:Nat×gi=>(⟨b.1,b.2,false⟩:cK)) c)).1
variable {c:(Nat->Nat)->Wz} {a:String}
theorem jV{B:Builtin}(z:plainId a=true)(y:entryFor table a=some B)
 (s:∀(d:WK) (e:WF) (k:Wz->WF->Prop) (E:Wz->WF->Prop),d.depth<=900->d.units<=9000->d.handled=none->gq K e.heap->(∀n∈b,e.heap.get? n.1=some n.2)->(∀g h,k (c g) {e with toks:=h})->
   wpAny (model P w) d (B ⟨L,[]⟩) (λl f=>∃j,l= .done (.ret j)/\k j f) E e):ct P w K (fh a L b c):=by
 intro d R e i I q p m t;refine codeAny_of_tree ?_;show wpAny _ (d.under (.builtin a ⟨L,[]⟩)) (match entryFor table a with|some o=>o ⟨L,[]⟩|none=>unsupported ((withoutEnding? a "#data").getD a)) _ _ e
 rw[y,Around.under_plainId z];have v:=i.dep;have D:=i.U9;have x:(fh a L b c).dep=4:=rfl;rw[x]at v D;refine wpAny_mono (s d.in1 e (λG f=>R (.ok (.ret G)) f) (λr f=>R (.error r) f) (by show d.depth<=900;omega) (by show d.units+1<=9000;omega) i.hd q (el m) λg h=> ?_) (λl f A=> ?_) λ_ _ H=>H
 ·exact t g (λ_=> #[]) _ (gA m p ⟨h,rfl⟩)
 ·obtain⟨j,rfl,C⟩:=A;exact C
theorem vi{B:Builtin}{c:gi}(z:plainId a=true)(x:entryFor table a=some B)(y:c.isFreed=false)
 (r:∀(e:WK) (f:WF) (k:Wz->WF->Prop) (E:Wz->WF->Prop),e.depth<=900->e.units<=9000->e.handled=none->gq K f.heap->(∀m∈b,f.heap.get? m.1=some m.2)->(∀h,k (.ref f.heap.objs.size) {f with heap:=f.heap.push c,toks:=h})->
   wpAny (model P w) e (B ⟨L,[]⟩) (λl g=>∃j,l= .done (.ret j)/\k j g) E f):ct P w K (FP a L b c):=by
 intro e R f i I p o d s;refine codeAny_of_tree ?_;show wpAny _ (e.under (.builtin a ⟨L,[]⟩)) (match entryFor table a with|some n=>n ⟨L,[]⟩|none=>unsupported ((withoutEnding? a "#data").getD a)) _ _ f
 rw[x,Around.under_plainId z];have t:=i.dep;have D:=i.U9;have v:(FP a L b c).dep=4:=rfl;rw[v]at t D;refine wpAny_mono (r e.in1 f (λG g=>R (.ok (.ret G)) g) (λq g=>R (.error q) g) (by show e.depth<=900;omega) (by show e.units+1<=9000;omega) i.hd p (el ⟨d.pre,d.nd,d.UR,d.U6,d.UX⟩) λh=> ?_) (λl g A=> ?_) λ_ _ H=>H
 ·exact s _ (λ_=> #[]) _ (m1 ⟨d.pre,d.nd,d.UR,d.U6,d.UX⟩ o y ⟨h,rfl⟩)
 ·obtain⟨j,rfl,C⟩:=A;exact C
theorem eU{B:Builtin}{m:Made}(o:plainId a=true)(l:entryFor table a=some B)(j:Gives (B ⟨L,[]⟩) m)
 (n:∀(g:Wz->WF->Prop) (b:WF),(∀d e,g (c d) {b with toks:=e})->m.post g b):ct P w K (fh a L [] c):=by
 intro f R b s r q i p k;refine codeAny_of_tree ?_;show wpAny _ (f.under (.builtin a ⟨L,[]⟩)) (match entryFor table a with|some h=>h ⟨L,[]⟩|none=>unsupported ((withoutEnding? a "#data").getD a)) _ _ b
 rw[l,Around.under_plainId o];exact j P w f R b (n _ _ λd e=>k d (λ_=> #[]) _ (gA p i ⟨e,rfl⟩))
def df:Wz->Nat
 | .int _ a=>a
 | .str _ a=>a
 | .bytes _ a=>a
 | .float _ a=>a
 |_=>0
def tk(c:Code)(a:Nat):Nat:=df ((lW c)[a]?.getD .none)
def ad(c:Code)(b:Nat):Nat:=match(lW c)[b]?.getD .none with
 | .ref a=>a
 |_=>0
def eJ(c:uk)(b:Nat):Nat:=match(c[b]?.getD default).data with
 | .seq _ a=>a
 | .dict _ a=>a
 |_=>0
theorem i9{a c:Nat}(b:decide (r<q)=D):ct P w K (fh "int.__lt__" [.int r a,.int q c] [] λ_=>.bool D):=
 eU (by decide+kernel) F.entry_int_lt (gives_int_lt r q a c) λf e d=>by rw[b];exact d (λ_=>0) e.toks
theorem pH{a c:Nat}(g:q≠0):ct P w K (fh "int.__mod__" [.int r a,.int q c] [] λe=>.int (r.fmod q) (e 0)):=
 eU (m:= .int (r.fmod q)) (by decide+kernel) F.entry_int_mod (.of_wp λk j E b d f=>by
  have h:(q==0)=false:=by simpa using g
  show wpAny _ _ (do
   if q==0 then rule "int.mod.zero";raiseError "ZeroDivisionError" "integer modulo by zero"
   ret (<-mkInt (r.fmod q))) _ _ b
  simp only[h,Bool.false_eq_true,if_false,pure_bind];exact ci (wpAny_mkInt (cj ⟨_,rfl,f⟩))) λd b i=>i (λ_=>b.toks) (b.toks+1)
theorem yF{a c:Nat}(e:IntMulOk r q):ct P w K (fh "int.__mul__" [.int r a,.int q c] [] λd=>.int (r*q) (d 0)):=
 eU (m:= .int (r*q)) (by decide+kernel) F.entry_int_mul (gives_int_mul r q a c e) λg b f=>f (λ_=>b.toks) (b.toks+1)
theorem rj{a c:Nat}(g:q≠0)(i:q.natAbs<1073741824):ct P w K (fh "int.__floordiv__" [.int r a,.int q c] [] λe=>.int (r.fdiv q) (e 0)):=
 eU (m:= .int (r.fdiv q)) (by decide+kernel) F.entry_int_floordiv (.of_wp λl k E b d f=>by
  have h:(q==0)=false:=by simpa using g
  show wpAny _ _ (do
   if q==0 then rule "int.floordiv.zero";raiseError "ZeroDivisionError" "integer division or modulo by zero"
   Builtin.roomForPylong r q
   ret (<-mkInt (r.fdiv q))) _ _ b
  simp only[h,Bool.false_eq_true,if_false];exact ci (wpAny_roomForPylong (.inl (PyProof.noPylong_small i)) (ci (wpAny_mkInt (cj ⟨_,rfl,f⟩))))) λd b j=>j (λ_=>b.toks) (b.toks+1)
theorem ja{l:Nat}{xs:ug}{ep:Nat}(g:xs.size<=2^24):ct P w K (fh "len" [.ref l] [(l,cm xs ep)] λb=>.int xs.size (b 0)):=
 jV (by decide+kernel) entry_len λe a f E _ _ _ _ c d=>by
  refine wpAny_len_body_list (items:=xs) ⟨_,c _ (.head _),rfl,ep,rfl⟩ (by omega) ?_;exact d (λ_=>a.toks+1) (a.toks+1+1)
theorem dZ{c:Nat}{a:Nat}(f:0<=q)(g:q<2^63)(j:H[q.toNat]?=some v):
  ct P w K (fh "list.__getitem__" [.ref c,.int q a] [(c,cm H d)] λ_=>v):=
 jV (by decide+kernel) entry_list_getitem λm b n E _ _ _ _ h i=>by
  have o:b.heap.IsList c H:=⟨_,h _ (.head _),rfl,d,rfl⟩;show wpAny _ _ (Builtin.List.listSubscript? (.int q a)>>=_) _ _ b;refine ci (wpAny_listSubscript_int (fitsIndex_of f g) ?_);clear g;obtain⟨e,rfl⟩:=Int.eq_ofNat_of_zero_le f;have k:H[e]?=some v:=j;show wpAny _ _ ((seqItemAt c e>>=λl=>pure (l.map (e, ·)))>>=_) _ _ b
  refine ci (ci (wpAny_seqItemAt (h _ (.head _)) rfl (cj ?_)));rw[k];exact cj ⟨v,rfl,i (λ_=>0) b.toks⟩
def iU(a:Int):Int:=if a<0 then-a else a
theorem yG{a:Nat}:ct P w K (fh "int.__abs__" [.int q a] [] λf=>.int (iU q) (f 0)):=
 jV (by decide+kernel) entry_int_abs λg c h E _ _ _ _ _ e=>by
  show wpAny _ _ (if q<0 then _ else _) _ _ c
  by_cases d:q<0
  ·have b:=e (λ_=>c.toks) (c.toks+1)
   unfold iU at b;rw[if_pos d]at b|-;exact ci (wpAny_mkInt (cj ⟨_,rfl,b⟩))
  ·have b:=e (λ_=>a) c.toks
   unfold iU at b;rw[if_neg d]at b|-;exact cj ⟨_,rfl,b⟩
def JQ(b c:Int)(d:Bool):TU:=λa _ _=>fh "int.__lt__" [.int b (tk a 0),.int c (tk a 1)] [] λ_=>.bool d
def Cz(a b:Int):TU:=λc _ _=>fh "int.__mod__" [.int a (tk c 0),.int b (tk c 1)] [] λd=>.int (a.fmod b) (d 0)
def MY(a:Int):TU:=λc _ _=>fh "int.__abs__" [.int a (tk c 0)] [] λb=>.int (iU a) (b 0)
def Rb(a b:Int):TU:=λc _ _=>fh "int.__mul__" [.int a (tk c 0),.int b (tk c 1)] [] λd=>.int (a*b) (d 0)
def Rc(a b:Int):TU:=λc _ _=>fh "int.__floordiv__" [.int a (tk c 0),.int b (tk c 1)] [] λd=>.int (a.fdiv b) (d 0)
def MZ(b:ug):TU:=λa d _=>fh "len" [.ref (ad a 0)] [(ad a 0,cm b (eJ d 0))] λc=>.int b.size (c 0)
def pI(e:ug)(b:Int)(d:Wz):TU:=λa c _=>fh "list.__getitem__" [.ref (ad a 0),.int b (tk a 1)] [(ad a 0,cm e (eJ c 0))] λ_=>d
end
end
section
open PySem.Calls
abbrev cl:=WD UInt8
theorem fN:typeLookup (.type "bytes") "__buffer__" =pure (some (.builtin "bytes.__buffer__")):=by rw[typeLookup_type,builtinLookup_eq_fast];kernel_rfl
theorem kc:typeLookup (.type "bytes") "__release_buffer__" =pure none:=by rw[typeLookup_type,builtinLookup_eq_fast];kernel_rfl
theorem em:typeLookup (.type "int") "__index__" =pure (some (.builtin "int.__index__")):=by rw[typeLookup_type,builtinLookup_eq_fast];kernel_rfl
theorem ir(b:cl)(c:Nat)(a:Str):specialOf (.bytes b c) a=typeLookup (.type "bytes") a:=rfl
theorem hY(b:Int)(c:Nat)(a:Str):specialOf (.int b c) a=typeLookup (.type "int") a:=rfl
theorem to(a:cl)(b:Nat):isInstance (.bytes a b) (.type "bytes")=pure true:=by show isSubtype (.type "bytes") (.type "bytes")=pure true;exact F.sub_bytes_bytes
theorem m2(a:cl)(b:Nat):isInstance (.bytes a b) (.type "tuple")=pure false:=by show isSubtype (.type "bytes") (.type "tuple")=pure false;exact F.sub_bytes_tuple
theorem m3(a:cl)(b:Nat):Builtin.Bytes.slotIsOwn (.bytes a b) "__buffer__" =pure true:=by unfold Builtin.Bytes.slotIsOwn;rw[ir,fN];show(if(!"bytes.__buffer__".endsWith ("." ++ "__buffer__"))=true then(pure false:Sem Bool)else isInstance (.bytes a b) (.type ("bytes.__buffer__".dropRight ("__buffer__".length+1))))=pure true;rw[if_neg (by decide+kernel),show "bytes.__buffer__".dropRight ("__buffer__".length+1)= "bytes" by decide+kernel];exact to a b
theorem xa(a:cl)(b:Nat):Builtin.Bytes.ownRelease (.bytes a b)=pure false:=by unfold Builtin.Bytes.ownRelease Builtin.Bytes.slotIsOwn;rw[ir,kc];rfl
theorem fy(c:String)(a:cl)(d:Nat)(b:Bool):Builtin.Bytes.buffer? c (.bytes a d) b=pure (some a):=by unfold Builtin.Bytes.buffer?;rw[ir,fN,m3,xa];rfl
theorem mC(b:String)(a:cl)(c:Nat):Builtin.Bytes.bytesLike b (.bytes a c)=pure a:=by unfold Builtin.Bytes.bytesLike;rw[fy];rfl
theorem CA(b:String)(a:cl)(c:Nat):Builtin.Bytes.takeBufferQuiet? b (.bytes a c) 0=pure (some (a,none)):=by
 unfold Builtin.Bytes.takeBufferQuiet? Builtin.Bytes.takeBuffer?;rw[ir,fN,m3];show(PySem.Sem.attempt (Builtin.Bytes.buffer? b (.bytes a c) _>>=λd=>pure (d.map (·,none)))>>=_)=_
 rw[fy];rfl
theorem yH(a:Int)(b:Nat):Builtin.Bytes.bound? (some (.int a b))=pure (some a):=by unfold Builtin.Bytes.bound?;show(specialOf (.int a b) "__index__" >>=_)=_;rw[hY,em];rfl
section
variable {P:WJ} {w:WG} {K:Nat->WA gi}
variable {a:String}
theorem yI{B:Builtin}{d:Wz}(g:plainId a=true)(f:entryFor table a=some B)(e:B ⟨L,[]⟩=ret d):ct P w K (fh a L [] λ_=>d):=
 eU (m:= .val d) g f (.of_wp λk j E b c h=>by
  rw[e];exact cj ⟨_,rfl,h⟩) λc b i=>i (λ_=>0) b.toks
theorem tu:entryFor table "bytes.find" =some Builtin.«bytes.find»:=entryFor_of_tree (by kernel_rfl)
theorem pJ:entryFor table "bytes.rindex" =some Builtin.«bytes.rindex»:=entryFor_of_tree (by kernel_rfl)
theorem CB(d:String)(a c:cl)(e b:Nat):Builtin.Bytes.searchArgs .bytes d ⟨[.bytes a e,.bytes c b],[]⟩=pure (a,c,if(a.size:Int)-0<c.size then none else some (0,a.size)):=by unfold Builtin.Bytes.searchArgs;show(Builtin.Bytes.buffer? _ (.bytes c b) _>>=_)=_;rw[fy];show(pure (a,c,if(min (a.size:Int) a.size)-0<c.size then none else some ((0:Int).toNat,(min (a.size:Int) a.size).toNat)):Sem _)=_;rw[Int.min_self];rfl
theorem CC(g:String)(b c:cl)(e d:Nat)(a:Int)(f:Nat)(j:0<=a):Builtin.Bytes.searchArgs .bytes g ⟨[.bytes b e,.bytes c d,.int a f],[]⟩=pure (b,c,if(b.size:Int)-a<c.size then none else some (a.toNat,b.size)):=by
 unfold Builtin.Bytes.searchArgs;have i:∀id,selfAndSome id g 1 3 ⟨[.bytes b e,.bytes c d,.int a f],[]⟩=pure (.bytes b e,[.bytes c d,.int a f]):=λ_=>rfl
 simp only[i,pure_bind,List.getElem?_cons_succ,List.getElem?_cons_zero,yH];show(Builtin.Bytes.buffer? _ (.bytes c d) _>>=_)=_;rw[fy];show(pure (b,c,if(min (b.size:Int) b.size)-(if a<0 then max 0 (a+b.size)else a)<c.size then none else some ((if a<0 then max 0 (a+b.size)else a).toNat,(min (b.size:Int) b.size).toNat)):Sem _)=_;have h:(if a<0 then max 0 (a+b.size)else a)=a:=if_neg (by omega);rw[Int.min_self,h];rfl
def oQ(a c:cl)(b:Nat):WA Nat:=if(a.size:Int)-b<c.size then none else Builtin.Bytes.find? a c b a.size
def M0:WA Nat->Int
 |some a=>a
 |none=> -1
variable {k c:cl}
theorem G6(b:0<=q):((if(k.size:Int)-q<c.size then none else some (q.toNat,k.size)).bind λ(a:Nat×Nat)=>Builtin.Bytes.find? k c a.1 a.2)=oQ k c q.toNat:=by unfold oQ;rw[Int.toNat_of_nonneg b];split<;>rfl
theorem fO{a:Nat}{b:WA Nat}(g:0<=q)(l:oQ k c q.toNat=b):ct P w K (fh "bytes.find" [.bytes k a,.bytes c e,.int q d] [] λj=>.int (M0 b) (j 0)):=
 eU (m:= .int (M0 b)) (by decide+kernel) tu (.of_wp λr p E f i h=>by
  show wpAny _ _ (Builtin.Bytes.searchArgs _ _ _>>=_) _ _ _;rw[CC _ _ _ _ _ _ _ g];show wpAny _ _ (match((if(k.size:Int)-q<c.size then none else some (q.toNat,k.size)).bind λ(q:Nat×Nat)=>Builtin.Bytes.find? k c q.1 q.2)with
   |some n=>retInt n
   |none=>_) _ _ _
  rw[G6 g,l];cases b with
  |none=>exact ci (wpAny_rule (ci (wpAny_mkInt (cj ⟨_,rfl,h⟩))))
  |some b=>exact ci (wpAny_mkInt (cj ⟨_,rfl,h⟩))) λi f o=>o (λ_=>f.toks) (f.toks+1)
variable {b:Nat}
theorem xb{a:Nat}(i:(if(k.size:Int)-0<c.size then none else Builtin.Bytes.rfind? k c 0 k.size)=some b):ct P w K (fh "bytes.rindex" [.bytes k a,.bytes c e] [] λh=>.int b (h 0)):=
 eU (m:= .int b) (by decide+kernel) pJ (.of_wp λq p E f g l=>by
  show wpAny _ _ (Builtin.Bytes.searchArgs _ _ _>>=_) _ _ _;rw[CB];have j:((if(k.size:Int)-0<c.size then none else some (0,k.size)).bind λ(d:Nat×Nat)=>Builtin.Bytes.rfind? k c d.1 d.2)=some b:=by
   rw[<-i];split<;>rfl
  show wpAny _ _ (match((if(k.size:Int)-0<c.size then none else some (0,k.size)).bind λ(d:Nat×Nat)=>Builtin.Bytes.rfind? k c d.1 d.2)with
   |some n=>retInt n
   |none=>_) _ _ _
  rw[j];exact ci (wpAny_mkInt (cj ⟨_,rfl,l⟩))) λg f o=>o (λ_=>f.toks) (f.toks+1)
theorem yJ:entryFor table "bytes.startswith" =some Builtin.«bytes.startswith»:=entryFor_of_tree (by kernel_rfl)
theorem yK:entryFor table "bytes.endswith" =some Builtin.«bytes.endswith»:=entryFor_of_tree (by kernel_rfl)
def cG(a c:cl):Bool:=if(a.size:Int)-0<c.size then false else a.extract 0 (0+c.size)==c
def oR(a c:cl):Bool:=if(a.size:Int)-0<c.size then false else a.extract (a.size-c.size) a.size==c
variable {d:Bool}
theorem hA{a:Nat}(b:cG k c=d):ct P w K (fh "bytes.startswith" [.bytes k a,.bytes c e] [] λ_=>.bool d):=
 yI (by decide+kernel) yJ (by
  show Builtin.Bytes.tailMatchM _ _ _ _=_;unfold Builtin.Bytes.tailMatchM;have f:∀id,selfAndSome id "startswith" 1 3 ⟨[.bytes k a,.bytes c e],[]⟩=pure (.bytes k a,[.bytes c e]):=λ_=>rfl
  have g:Builtin.Bytes.bound? none=pure none:=rfl;have h:Builtin.Bytes.payload (.bytes k a)=pure k:=rfl;simp only[f,pure_bind,List.getElem?_cons_succ,List.getElem?_cons_zero,List.getElem?_nil,g,h,List.headD_cons,m2,fy,<-b];show(ret (.bool (if(min (k.size:Int) k.size)-0<c.size then false else k.extract 0 (0+c.size)==c)):Sem _)=_;rw[Int.min_self];rfl)
theorem M1{a:Nat}(b:oR k c=d):ct P w K (fh "bytes.endswith" [.bytes k a,.bytes c e] [] λ_=>.bool d):=
 yI (by decide+kernel) yK (by
  show Builtin.Bytes.tailMatchM _ _ _ _=_;unfold Builtin.Bytes.tailMatchM;have f:∀id,selfAndSome id "endswith" 1 3 ⟨[.bytes k a,.bytes c e],[]⟩=pure (.bytes k a,[.bytes c e]):=λ_=>rfl
  have g:Builtin.Bytes.bound? none=pure none:=rfl;have h:Builtin.Bytes.payload (.bytes k a)=pure k:=rfl;simp only[f,pure_bind,List.getElem?_cons_succ,List.getElem?_cons_zero,List.getElem?_nil,g,h,List.headD_cons,m2,fy,<-b];show(ret (.bool (if(min (k.size:Int) k.size)-0<c.size then false else k.extract ((min (k.size:Int) k.size).toNat-c.size) (min (k.size:Int) k.size).toNat==c)):Sem _)=_;rw[Int.min_self];rfl)
theorem cN{a:Nat}{d:Int}(f:(k.size:Int)=d)(i:k.size<=1099511627776):ct P w K (fh "len" [.bytes k a] [] λc=>.int d (c 0)):=
 jV (by decide+kernel) entry_len λg b h E _ _ _ _ _ e=>by
  refine wpAny_len_body (typeIs_bytes b k a) FB.slot_bytes_len FB.entry_bytes_len (FB.args_bytes_len_1 _) (gives_bytes_len k a) (by omega) (by omega) ?_;rw[f];exact e (λ_=>b.toks+1) (b.toks+1+1)
theorem iu{a:Nat}{c:UInt8}(g:0<=r)(l:r<2^63)(b:k[r.toNat]?=some c):ct P w K (fh "bytes.__getitem__" [.bytes k a,.int r e] [] λf=>.int c.toNat (f 0)):=
 eU (m:= .int c.toNat) (by decide+kernel) FB.entry_bytes_getitem (gives_bytes_getitem k r a e c (by simp only[Builtin.Bytes.fitsIndex,Bool.and_eq_true,decide_eq_true_eq];omega) (by
  have n:r.toNat<k.size:=by
   rcases Nat.lt_or_ge r.toNat k.size with q|q
   ·exact q
   ·rw[Array.getElem?_eq_none q]at b;cases b
  have:seqIndex? r k.size=some r.toNat:=by
   have i:¬r<0:=by omega
   have h:r<(k.size:Int):=by omega
   simp[seqIndex?,i,g,h]
  rw[this];exact b)) λj d q=>q (λ_=>d.toks) (d.toks+1)
theorem lB{a:Nat}(b:(k.toList==c.toList)=d):ct P w K (fh "bytes.__eq__" [.bytes k a,.bytes c e] [] λ_=>.bool d):=
 eU (by decide+kernel) FB.entry_bytes_eq (gives_bytes_eq k c a e) λh g f=>by rw[b];exact f (λ_=>0) g.toks
theorem kd{a:Nat}(b:(k.toList !=c.toList)=d):ct P w K (fh "bytes.__ne__" [.bytes k a,.bytes c e] [] λ_=>.bool d):=
 eU (by decide+kernel) FB.entry_bytes_ne (gives_bytes_ne k c a e) λh g f=>by rw[b];exact f (λ_=>0) g.toks
theorem G7{B:Builtin}{d:cl}(g:plainId a=true)(f:entryFor table a=some B)(l:d.size<=16777216)(e:B ⟨L,[]⟩=(mkBytes d>>=λi=>ret i)):ct P w K (fh a L [] λc=>.bytes d (c 0)):=
 jV g f λj b k E _ _ _ _ _ h=>by
  rw[e];exact ci (wpAny_mkBytes (cj ⟨_,rfl,h (λ_=>b.toks) (b.toks+1)⟩) (by unfold sizeLine;omega))
theorem jb(c:b<=16777216):¬Builtin.Bytes.tooLong b=true:=by
 unfold Builtin.Bytes.tooLong sizeLine;intro a;have:b>2^24:=by simpa using a
 omega
theorem tz:entryFor table "bytes.__mul__" =some Builtin.«bytes.__mul__»:=entryFor_of_tree (by kernel_rfl)
theorem CD{a:Nat}{d:cl}(m:Builtin.Bytes.repeated k b=d)(j:b≠1)(c:k.size≠0)(q:k.size*b<=16777216)(r:d.size=k.size*b):ct P w K (fh "bytes.__mul__" [.bytes k a,.int b e] [] λf=>.bytes d (f 0)):=
 G7 (by decide+kernel) tz (by omega) (by
  have p:b<=16777216:=by
   have:=Nat.le_mul_of_pos_left b (Nat.pos_of_ne_zero c);omega
  have i:Builtin.Bytes.fitsIndex (b:Int)=true:=by simp only[Builtin.Bytes.fitsIndex,Bool.and_eq_true,decide_eq_true_eq];omega
  have g:Builtin.Bytes.repeatArgs .bytes "__mul__" ⟨[.bytes k a,.int b e],[]⟩=pure (.bytes k a,(b:Int)):=by
   have h:asIndex (.int (b:Int) e)=pure (b:Int):=rfl;unfold Builtin.Bytes.repeatArgs;simp only[h,pure_bind,i];rfl
  show(Builtin.Bytes.repeatArgs .bytes "__mul__" ⟨[.bytes k a,.int b e],[]⟩>>=_)=_;rw[g];have l:k.size*b≠k.size:=λn=>j (Nat.eq_of_mul_eq_mul_left (Nat.pos_of_ne_zero c) (by rw[n,Nat.mul_one]))
  show(if k.size*((b:Int).toNat)>=2^63 then _ else if(k.size*((b:Int).toNat)==k.size)=true then _ else if Builtin.Bytes.tooLong (k.size*((b:Int).toNat))=true then _ else(mkBytes (Builtin.Bytes.repeated k ((b:Int).toNat))>>=λo=>ret o))=_
  rw[Int.toNat_natCast,if_neg (by omega),if_neg (by simpa using l),if_neg (jb (by omega)),m])
theorem tA:entryFor table "bytes.__add__" =some Builtin.«bytes.__add__»:=FB.entry_bytes_add
theorem yL(b:String)(a:cl)(c:Nat):Builtin.Bytes.bufferQuiet? b (.bytes a c)=pure (some a):=by unfold Builtin.Bytes.bufferQuiet?;rw[fy];rfl
theorem CE{d:cl}{a:Nat}(b:k++c=d)(n:d.size<=16777216):ct P w K (fh "bytes.__add__" [.bytes k a,.bytes c e] [] λj=>.bytes d (j 0)):=
 jV (by decide+kernel) tA λl f m E _ _ _ _ _ i=>by
  have o:d.size=k.size+c.size:=by rw[<-b,Array.size_append]
  show wpAny _ _ (Builtin.Bytes.buffer? "bytes.__add__" (.bytes k a)>>=_) _ _ _;rw[fy,pure_bind];show wpAny _ _ (Builtin.Bytes.bufferQuiet? "bytes.__add__" (.bytes c e)>>=_) _ _ _;rw[yL,pure_bind];show wpAny _ _ (if k.isEmpty=true then _ else _) _ _ _
  by_cases g:k.isEmpty=true
  ·rw[if_pos g];have:d=c:=by
    have:k= #[]:=Array.isEmpty_iff.mp g;rw[<-b,this];simp
   subst this;exact ci (cj (ci (wpAny_rule (cj ⟨_,rfl,i (λ_=>e) f.toks⟩))))
  ·rw[if_neg g];show wpAny _ _ (if c.isEmpty=true then _ else _) _ _ _
   by_cases h:c.isEmpty=true
   ·rw[if_pos h];have:d=k:=by
     have:c= #[]:=Array.isEmpty_iff.mp h;rw[<-b,this];simp
    subst this;exact ci (cj (ci (wpAny_rule (cj ⟨_,rfl,i (λ_=>a) f.toks⟩))))
   ·rw[if_neg h];show wpAny _ _ (if Builtin.Bytes.tooLong (k.size+c.size)=true then _ else _) _ _ _;rw[if_neg (jb (by omega)),b];exact ci (wpAny_mkBytes (cj ⟨_,rfl,i (λ_=>f.toks) (f.toks+1)⟩) (by unfold sizeLine;omega))
end
end
variable {k l:cl}
section
open PySem.Calls
def gB(b a:Wz):gi:=⟨.type "slice",none,.fields #[b,a,.none],#[]⟩
inductive FQ:Wz->Prop where
 |none:FQ .none
 |int (i:Int) (t:Nat):FQ (.int i t)
def eW(d:Wz)(b c:Int):Int:=match d with
 | .int a _=>max 0 (min (if a<0 then a+b else a) b)
 |_=>c
theorem hZ:typeLookup (.type "slice") "__index__" =pure none:=by rw[typeLookup_type,builtinLookup_eq_fast];kernel_rfl
theorem tB:entryFor table "bytes.__getitem__" =some Builtin.«bytes.__getitem__»:=FB.entry_bytes_getitem
def G8:Wz->Wz
 | .int a _=>rawInt a
 |v=>v
theorem xc(c:cl)(a b:Nat):Builtin.Bytes.sliced c a b 1=c.extract a b:=by unfold Builtin.Bytes.sliced;have:=sliceRange_one a b;rw[this,pick_run];apply Array.ext';simp[Array.toList_extract,List.extract_eq_drop_take]
section
variable {P:WJ} {w:WG} {K:Nat->WA gi}
theorem vj(d:FQ v){b:Model}{E:Wz->WF->Prop}{a:Wz->WF->Prop}(e:a (G8 v) I):
  wpAny b F (if(v== .none)=true then pure .none else(specialOf v "__index__" >>=λf=>if f.isNone=true then(rule "bytes.slice.part-no-index" >>=λ_=>(raiseError "TypeError" "slice indices must be integers or None or have an __index__ method" :Sem Unit)>>=λ_=>asIndex v>>=λc=>pure (rawInt c))else(asIndex v>>=λc=>pure (rawInt c)))) a E I:=by
 cases d with
 |none=>exact cj e
 |int c g=>
  rw[if_neg (by intro d;cases d),hY,em];exact cj e
variable {a:Wz}
theorem iw(d:FQ a)(c:FQ x)(b:Nat):sliceIndices (G8 a) (G8 x) .none b=pure (eW a b 0,eW x b b,1):=by cases d<;>cases c<;>rfl
theorem yM(p:FQ a)(o:FQ x)(f:k.extract (eW a k.size 0).toNat (eW x k.size k.size).toNat=l)(L:k.size<=16777216):
  ct P w K (fh "bytes.__getitem__" [.bytes k e,.ref c] [(c,gB a x)] λt=>.bytes l (t 0)):=
 jV (by decide+kernel) tB λI b J E _ _ _ _ C q=>by
  have g:b.heap.get? c=some (gB a x):=C _ (.head _);show wpAny _ _ (Builtin.Bytes.subscript? (.ref c)>>=_) _ _ b;refine ci ?_;unfold Builtin.Bytes.subscript?;refine ci (wpAny_specialOf (T:= "slice") ⟨_,g,rfl⟩ hZ ?_);refine cj ?_;show wpAny _ _ (typeOf (.ref c)>>=_) _ _ b;refine ci (wpAny_typeOf (T:= "slice") ⟨_,g,rfl⟩ ?_);rw[if_neg (by decide+kernel)];show wpAny _ _ (Builtin.Bytes.sliceParts (.ref c)>>=_) _ _ b;refine ci ?_;unfold Builtin.Bytes.sliceParts;refine ci (wpAny_field g rfl rfl ?_);refine ci (cj ?_);rw[if_neg (by intro y;cases y)];refine ci (wpAny_field (i:=0) g rfl rfl ?_);refine ci (vj p ?_);refine ci (wpAny_field (i:=1) g rfl rfl ?_);refine ci (vj o ?_);refine cj ?_;dsimp only;rw[iw p o];have n:∀{v:Wz} {d:Int},0<=d->d<=k.size->0<=eW v k.size d/\eW v k.size d<=k.size:=λ{v d} z A=>by
   unfold eW;split
   ·constructor
    ·exact Int.le_max_left ..
    ·exact Int.max_le.mpr ⟨by omega,Int.min_le_right ..⟩
   ·exact⟨z,A⟩
  have r:=n (v:=a) (d:=0) (Int.le_refl _) (by omega);have s:=n (v:=x) (d:=k.size) (by omega) (Int.le_refl _);generalize eW a k.size 0=h at f r;generalize eW x k.size k.size=j at f s;obtain⟨h,rfl⟩:=Int.eq_ofNat_of_zero_le r.1;obtain⟨j,rfl⟩:=Int.eq_ofNat_of_zero_le s.1;rw[Int.toNat_natCast,Int.toNat_natCast]at f;show wpAny _ _ (if((h:Int)==0 &&(1:Int)==1 &&(j:Int)==k.size && !k.isEmpty)=true then _ else _) _ _ _
  by_cases m:((h:Int)==0 &&(1:Int)==1 &&(j:Int)==k.size && !k.isEmpty)=true
  ·rw[if_pos m];have D:l=k:=by
    simp only[Bool.and_eq_true,beq_iff_eq]at m;have G:h=0:=by omega
    have H:j=k.size:=by omega
    rw[<-f,G,H];simp
   subst D;exact ci (cj (ci (wpAny_rule (cj ⟨_,rfl,q (λ_=>e) b.toks⟩))))
  ·rw[if_neg m];show wpAny _ _ (mkBytes (Builtin.Bytes.sliced k h j 1)>>=_) _ _ _;rw[xc,f];refine ci (wpAny_mkBytes (cj ⟨_,rfl,q (λ_=>b.toks) (b.toks+1)⟩) ?_)
   have:l.size<=k.size:=by rw[<-f,Array.size_extract];omega
   unfold sizeLine;omega
end
end
variable {m n:cl} {A:Wy cl}
section
open PySem.Calls
def d3:Wy cl->(Nat->Nat)->ui
 |[],_=>[]
 |b::c,a=>.bytes b (a 0)::d3 c (cy a)
theorem d8:∀(a:Wy cl) (b:Nat->Nat),(d3 a b).length=a.length
 |[],_=>rfl
 |_::a,b=>congrArg (· +1) (d8 a (cy b))
theorem kK:∀(a:Wy cl) (c:Nat->Nat) (d:Nat),(d3 a c)[d]?=(a[d]?).map λb=>.bytes b (c d)
 |[],_,_=>by simp[d3]
 |b::a,c,0=>by simp[d3]
 |b::a,c,d+1=>by
  simp only[d3,List.getElem?_cons_succ,kK a (cy c) d];rfl
def G9(b:Wy (Nat×gi))(c:AL->gi):mw:=⟨pl b,[],λ_ _=>b.map (·.2),nn,λa _=>[⟨a 0,c (cy a),false⟩],nn,[],nn⟩
def rk(c:String)(b:ui)(e:Wy (Nat×gi))(d:AL->gi):Spec:=⟨.builtin c ⟨b,[]⟩,4,none,G9 e d,λa _=>uj (.ref (a 0))⟩
section
variable {P:WJ} {w:WG} {K:Nat->WA gi}
variable {a:AL->gi} {d:Wy (Nat×gi)}
theorem CF{b:AL}{s1:WF}{e:SL}(l:d7 K (kJ d) Z I)(h:AllBare I.gens)(j:(a b).isFreed=false)(k:∃f,s1={I with heap:=I.heap.push (a b),toks:=f}):eh (G9 d a) Z (cons I.heap.objs.size b) e I s1:=by
 obtain⟨f,rfl⟩:=k;have g:=gA (al:=λ_=>0) (sl:=e) (s1:={I with toks:=f}) l h ⟨f,rfl⟩
 exact gO (E':=G9 d a) (al':=cons I.heap.objs.size b) (c:=⟨I.heap.objs.size,a b,false⟩) g rfl rfl rfl rfl rfl rfl rfl rfl j rfl λm a i=>Heap.lt_size i
theorem tC{b:String}{B:Builtin}(A:plainId b=true)(y:entryFor table b=some B)(z:∀h,(a h).isFreed=false)
 (s:∀(e:WK) (f:WF) (l:Wz->WF->Prop) (E:Wz->WF->Prop),e.depth<=900->e.units<=9000->e.handled=none->gq K f.heap->(∀n∈d,f.heap.get? n.1=some n.2)->(∀h i,l (.ref f.heap.objs.size) {f with heap:=f.heap.push (a h),toks:=i})->
   wpAny (model P w) e (B ⟨L,[]⟩) (λm g=>∃k,m= .done (.ret k)/\l k g) E f):ct P w K (rk b L d a):=by
 intro e R f j J q p c t;refine codeAny_of_tree ?_;show wpAny _ (e.under (.builtin b ⟨L,[]⟩)) (match entryFor table b with|some o=>o ⟨L,[]⟩|none=>unsupported ((withoutEnding? b "#data").getD b)) _ _ f
 rw[y,Around.under_plainId A];have v:=j.dep;have G:=j.U9;have x:(rk b L d a).dep=4:=rfl;rw[x]at v G;refine wpAny_mono (s e.in1 f (λH g=>R (.ok (.ret H)) g) (λr g=>R (.error r) g) (by show e.depth<=900;omega) (by show e.units+1<=9000;omega) j.hd q (el ⟨c.pre,c.nd,c.UR,c.U6,c.UX⟩) λh i=> ?_) (λm g C=> ?_) λ_ _ I=>I
 ·exact t _ (λ_=> #[]) _ (CF ⟨c.pre,c.nd,c.UR,c.U6,c.UX⟩ p (z h) ⟨i,rfl⟩)
 ·obtain⟨k,rfl,D⟩:=C;exact D
theorem tD:entryFor table "bytes.replace" =some Builtin.«bytes.replace»:=entryFor_of_tree (by kernel_rfl)
def jc(a b c:cl):cl:=Builtin.Bytes.joined c (Builtin.Bytes.between a b.size (Builtin.Bytes.occurrences a b 0 a.size))
theorem l5(a:cl)(b:Nat):Builtin.Bytes.between a b []=[a]:=by unfold Builtin.Bytes.between;simp
theorem m4(b a:cl):Builtin.Bytes.joined b [a]=a:=by unfold Builtin.Bytes.joined;simp
theorem CG{a d:Nat}(o:l.isEmpty=false)(g:jc k l m=n)(q:k.size+(Builtin.Bytes.occurrences k l 0 k.size).length*m.size<=16777216)(t:n.size<=16777216):
  ct P w K (fh "bytes.replace" [.bytes k a,.bytes l c,.bytes m d] [] λh=>.bytes n (h 0)):=
 jV (by decide+kernel) tD λr e s E _ _ _ _ _ f=>by
  show wpAny _ _ (Builtin.Bytes.replaceM .bytes _) _ _ _;unfold Builtin.Bytes.replaceM;have j:∀id,selfAndSome id "replace" 2 3 ⟨[.bytes k a,.bytes l c,.bytes m d],[]⟩=pure (.bytes k a,[.bytes l c,.bytes m d]):=λ_=>rfl
  simp only[j,pure_bind,List.headD_cons,List.getD_cons_succ,List.getD_cons_zero,mC];show wpAny _ _ (if((if l.isEmpty=true then List.range (k.size+1)else Builtin.Bytes.occurrences k l 0 k.size).isEmpty||(l.isEmpty && m.isEmpty))=true then _ else _) _ _ _;rw[o];simp only[Bool.false_and,Bool.or_false,Bool.false_eq_true,if_false]
  by_cases b:(Builtin.Bytes.occurrences k l 0 k.size).isEmpty=true
  ·rw[if_pos b];have p:n=k:=by
    rw[<-g];unfold jc;rw[List.isEmpty_iff.mp b,l5,m4]
   subst p;exact ci (wpAny_rule (ci (cj (cj ⟨_,rfl,f (λ_=>a) e.toks⟩))))
  ·rw[if_neg b];have i:(if(-1:Int)<0 then Builtin.Bytes.occurrences k l 0 k.size else List.take (-1:Int).toNat (Builtin.Bytes.occurrences k l 0 k.size))=Builtin.Bytes.occurrences k l 0 k.size:=if_pos (by decide);rw[i,if_neg (jb q)];show wpAny _ _ (mkBytes (jc k l m)>>=_) _ _ _;rw[g];exact ci (wpAny_mkBytes (cj ⟨_,rfl,f (λ_=>e.toks) (e.toks+1)⟩) (by unfold sizeLine;omega))
theorem m5{a:Model}{F:WK}{E:Wz->WF->Prop}:∀(c:Wy cl) (b:WF) (d:ui->WF->Prop),(∀e∈c,e.size<=16777216)->(∀f h,d (d3 c f) {b with toks:=h})->wpAny a F (c.mapM Builtin.Bytes.Kind.bytes.new) d E b
 |[],b,d,_,g=>by
  rw[List.mapM_nil];exact cj (g (λ_=>0) b.toks)
 |e::c,b,d,i,g=>by
  rw[List.mapM_cons];show wpAny _ _ (mkBytes e>>=_) _ _ _;refine ci (wpAny_mkBytes ?_ (by have:=i e (.head _);unfold sizeLine;omega));refine ci (m5 c _ _ (λk j=>i k (.tail _ j)) λf h=> ?_)
  exact cj (g (cons b.toks f) h)
theorem m6{a:Nat}{places:uh}{b:Wz->WF->Prop}{E:Wz->WF->Prop}{d:String}(g:Builtin.Bytes.between k c places=A)(n:∀o∈A,o.size<=16777216)(s:A.length<=16777216)
 (j:∀(e:Nat->Nat) (h:Nat),b (.ref I.heap.objs.size) {I with heap:=I.heap.push (cm ⟨d3 A e⟩ 0),toks:=h}):
  wpAny (model P w) F (if places.isEmpty=true then(rule d>>=λ_=>Builtin.Bytes.Kind.same .bytes (.bytes k a)>>=λq=>newList [q]>>=λi=>ret i)else((Builtin.Bytes.between k c places).mapM Builtin.Bytes.Kind.bytes.new>>=λr=>newList r>>=λi=>ret i)) (λm p=>∃l,m= .done (.ret l)/\b l p) E I:=by
 by_cases f:places.isEmpty=true
 ·rw[if_pos f];rw[List.isEmpty_iff.mp f,l5]at g;subst g;refine ci (wpAny_rule (ci (cj (ci (wpAny_newList (cj ⟨_,rfl,j (λ_=>a) I.toks⟩) (by show 1<=_;unfold sizeLine;omega))))))
 ·rw[if_neg f,g];refine ci (m5 A _ _ n λe h=>ci (wpAny_newList (cj ⟨_,rfl,j e h⟩) (by rw[d8];unfold sizeLine;omega)))
theorem kL:entryFor table "bytes.split" =some Builtin.«bytes.split»:=entryFor_of_tree (by kernel_rfl)
theorem om:entryFor table "bytes.rsplit" =some Builtin.«bytes.rsplit»:=entryFor_of_tree (by kernel_rfl)
def gg(a b:cl)(c:Nat):Wy cl:=Builtin.Bytes.between a b.size ((Builtin.Bytes.occurrences a b 0 a.size).take c)
def pK(a b:cl)(c:Nat):Wy cl:=Builtin.Bytes.between a b.size (Builtin.Bytes.occurrencesFromRight a b c)
theorem xd{a:Nat}(g:l.isEmpty=false)(d:gg k l (k.size+1)=A)(i:∀j∈A,j.size<=16777216)(f:A.length<=16777216):
  ct P w K (rk "bytes.split" [.bytes k a,.bytes l c] [] λb=>cm ⟨d3 A b⟩ 0):=
 tC (by decide+kernel) kL (λ_=>rfl) λm o n E _ _ _ _ _ h=>by
  show wpAny _ _ (Builtin.Bytes.splitM .bytes _ _ _) _ _ _;unfold Builtin.Bytes.splitM;have e:∀id,Builtin.Bytes.bindOptional id "split" ["sep","maxsplit"] [.bytes l c] []=pure [some (.bytes l c),none]:=λ_=>rfl
  simp only[e,pure_bind,mC];show wpAny _ _ (if l.isEmpty=true then _ else _) _ _ _;rw[g];exact m6 (places:=(Builtin.Bytes.occurrences k l 0 k.size).take (k.size+1)) d i f h
theorem m7{a d:Nat}(i:l.isEmpty=false)(e:gg k l 1=A)(m:∀n∈A,n.size<=16777216)(h:A.length<=16777216):
  ct P w K (rk "bytes.split" [.bytes k a,.bytes l c,.int 1 d] [] λb=>cm ⟨d3 A b⟩ 0):=
 tC (by decide+kernel) kL (λ_=>rfl) λo q p E _ _ _ _ _ j=>by
  show wpAny _ _ (Builtin.Bytes.splitM .bytes _ _ _) _ _ _;unfold Builtin.Bytes.splitM;have f:∀id,Builtin.Bytes.bindOptional id "split" ["sep","maxsplit"] [.bytes l c,.int 1 d] []=pure [some (.bytes l c),some (.int 1 d)]:=λ_=>rfl
  have g:∀id,Builtin.Bytes.countArg id (.int 1 d)=pure 1:=λ_=>rfl
  simp only[f,pure_bind,mC,g];show wpAny _ _ (if l.isEmpty=true then _ else _) _ _ _;rw[i];exact m6 (places:=(Builtin.Bytes.occurrences k l 0 k.size).take 1) e m h j
theorem rm{a d:Nat}(i:l.isEmpty=false)(e:pK k l 1=A)(m:∀n∈A,n.size<=16777216)(h:A.length<=16777216):
  ct P w K (rk "bytes.rsplit" [.bytes k a,.bytes l c,.int 1 d] [] λb=>cm ⟨d3 A b⟩ 0):=
 tC (by decide+kernel) om (λ_=>rfl) λo q p E _ _ _ _ _ j=>by
  show wpAny _ _ (Builtin.Bytes.splitM .bytes _ _ _) _ _ _;unfold Builtin.Bytes.splitM;have f:∀id,Builtin.Bytes.bindOptional id "rsplit" ["sep","maxsplit"] [.bytes l c,.int 1 d] []=pure [some (.bytes l c),some (.int 1 d)]:=λ_=>rfl
  have g:∀id,Builtin.Bytes.countArg id (.int 1 d)=pure 1:=λ_=>rfl
  simp only[f,pure_bind,mC,g];show wpAny _ _ (if l.isEmpty=true then _ else _) _ _ _;rw[i];exact m6 (places:=Builtin.Bytes.occurrencesFromRight k l 1) e m h j
theorem rn:entryFor table "bytes.join" =some Builtin.«bytes.join»:=entryFor_of_tree (by kernel_rfl)
theorem xe{c:Wy (Wz×WA Wz)}(d:∀b∈c,b.1.onHeap=false/\b.2=none):(c.any λa=>a.1.onHeap)=false:=by rw[List.any_eq_false];intro a e;simp[(d a e).1]
theorem oS{a:Model}{F:WK}{E:Wz->WF->Prop}:∀(e:Wy (Wz×WA Wz)) (d:ui) (c:WF) (b:Unit->WF->Prop),(∀f∈e,f.1.onHeap=false/\f.2=none)->b () c->wpAny a F (Builtin.Bytes.joinLetGo e d) b E c
 |[],d,c,b,_,g=>cj g
 |(l,k)::e,d,c,b,i,g=>by
  obtain⟨_,h⟩:=i _ (.head _);have h:k=none:=h;subst h;unfold Builtin.Bytes.joinLetGo;exact ci (wpAny_letGo (oS e d c b (λf j=>i f (.tail _ j)) g))
set_option maxHeartbeats 1000000 in
theorem h3{a d:Nat}{b:Nat->Nat}(v:A≠[])(h:Builtin.Bytes.joined l A=n)(a2:n.size<=16777216)(p:A.foldl (· + ·.size) (l.size*(A.length-1))<=16777216):
  ct P w K (fh "bytes.join" [.bytes l a,.ref c] [(c,cm ⟨d3 A b⟩ d)] λN=>.bytes n (N 0)):=
 jV (by decide+kernel) rn λZ s a0 E _ _ _ _ o I=>by
  have f:s.heap.get? c=some (cm ⟨d3 A b⟩ d):=o _ (.head _);show wpAny _ _ (Builtin.Bytes.joinM .bytes _) _ _ _;unfold Builtin.Bytes.joinM;refine ci (m:=selfAndOne _ _) (cj ?_);dsimp only;refine ci (m:=Builtin.Bytes.joinItems (.ref c)) ?_;unfold Builtin.Bytes.joinItems;refine ci (wpAny_typeOf (T:= "list") ⟨_,f,rfl⟩ ?_);rw[if_pos (by decide+kernel)];refine cj ?_;refine ci (wpAny_seqItems f rfl ?_)
  match A,v,h,p,f with
  |[x],v,h,p,f=>
   show wpAny _ _ (typeOf (.bytes x _)>>=_) _ _ _;rw[m4]at h;subst h;exact ci (cj (ci (wpAny_rule (cj ⟨_,rfl,I (λ_=>b 0) s.toks⟩))))
  |x::M::H,v,h,p,f=>
   show wpAny _ _ (forIn [0:(d3 (x::M::H) b).length] _ _>>=_) _ _ _;generalize a1:x::M::H=A at h p f;refine ci (wpAny_mono (Q:=λn j=>j=s/\n.1=A.toArray/\∀i∈n.2,i.1.onHeap=false/\i.2=none) ?_ (λn j g=> ?_) λ_ _ O=>O)
   ·rw[Std.Legacy.Range.forIn_eq_forIn_range'];simp only[Std.Legacy.Range.size,Nat.sub_zero,Nat.add_sub_cancel,Nat.div_one];refine wpAny_forIn_list _ (λJ n j=>j=s/\∃e,J=List.range' e (A.length-e)/\e<=A.length/\n.1=(A.take e).toArray/\∀i∈n.2,i.1.onHeap=false/\i.2=none) _ ?_ ?_ _ _ ⟨rfl,0,by rw[d8];rfl,Nat.zero_le _,by simp,λi o=>by cases o⟩
    ·rintro e J ⟨C,L⟩ j ⟨rfl,k,g,F,y,r⟩;have t:k<A.length:=by
      rcases Nat.lt_or_ge k A.length with h|h
      ·exact h
      ·rw[Nat.sub_eq_zero_of_le h]at g;cases g
     rw[show A.length-k=(A.length-k-1)+1 by omega,List.range'_succ]at g;injection g with Q Y;subst Q;subst y;refine ci (wpAny_seqItems f rfl ?_);dsimp only;rw[xe r];have X:((⟨d3 A b⟩:ug).getD e .none)= .bytes A[e] (b e):=by
      have:=kK A b e;simp only[Array.getD_eq_getD_getElem?];show((d3 A b).toArray[e]?).getD .none=_;rw[List.getElem?_toArray,this,List.getElem?_eq_getElem t];rfl
     rw[X];rw[if_neg (by decide+kernel)];refine ci (wpAny_holding ?_);rw[CA];refine cj ?_;dsimp only;refine ci (wpAny_seqItems f rfl ?_);dsimp only;rw[if_neg (by simp)];refine cj ⟨rfl,e+1, ?_,t, ?_,λi o=> ?_⟩
     ·rw[Y];congr 1
     ·show(List.take e A).toArray.push A[e]=_;rw[List.push_toArray,List.take_add_one,List.getElem?_eq_getElem t];rfl
     ·rcases ud o with q|q
      ·exact r i q
      ·rw[List.mem_singleton]at q;subst q;exact⟨rfl,rfl⟩
    ·rintro⟨C,L⟩ j ⟨rfl,k,g,F,y,r⟩;have:A.length-k=0:=by
      have:=congrArg List.length g;simpa using this.symm
     have R:k=A.length:=by omega
     subst R;exact⟨rfl,by simpa using y,r⟩
   ·obtain⟨rfl,z,V⟩:=g;obtain⟨C,L⟩:=n;have z:C=A.toArray:=z;subst z;refine ci (m:=Builtin.Bytes.payload (.bytes l a)) (cj ?_);have W:Array.foldl (λD (G:cl)=>D+G.size) (l.size*(A.toArray.size-1)) A.toArray<=16777216:=by
     simpa using p
    show wpAny _ _ (if Builtin.Bytes.tooLong (Array.foldl (λD (G:cl)=>D+G.size) (l.size*(A.toArray.size-1)) A.toArray)=true then _ else _) _ _ _
    rw[if_neg (jb W)];show wpAny _ _ (mkBytes (Builtin.Bytes.joined l A)>>=_) _ _ _;rw[h];refine ci (wpAny_mkBytes ?_ (by unfold sizeLine;omega));refine ci (wpAny_holding (wpAny_point ?_));exact ci (oS _ _ _ _ V (cj ⟨_,rfl,I (λ_=>j.toks) (j.toks+1)⟩))
end
end
section
open PySem.Calls
def dL(b:String)(a:ui):gi:=⟨.type b,none,.fields a.toArray,#[]⟩
def dp(b c:Nat)(a:Int):gi:=dL "list_iterator" [.ref b,.int a 0]
section
variable {P:WJ} {w:WG} {K:Nat->WA gi}
variable {f:gi->gi} {o:gi}
theorem ix{E E':mw}{b:SL}{c:WF}{p0:gi}{Pr:Wy cK}{ps:uk}(h:eh E Z y b J I)(P:d7 K E Z J)(k:E.pre=⟨a,o,false⟩::Pr)(x:E.post y b=p0::ps)
 (a2:(f p0).isFreed=false)(a3:kF p0 (f p0))(m:E'.pre=E.pre)(n:E'.UR=E.UR)(D:E'.post y b=f p0::ps)(G:E'.UQ y b=E.UQ y b)(H:E'.new y b=E.new y b)(L:E'.UW y b=E.UW y b)(a0:E'.US y b=E.US y b)
 (a5:c={I with heap:=I.heap.update a f}):eh E' Z y b J c:=by
 subst a5;have Q:=h.len;have a7:(⟨⟨a,o,false⟩,p0⟩:cK×gi)∈E.pre.zip (E.post y b):=by rw[k,x];exact .head _
 have N:I.heap.get? a=some p0:=h.post _ a7;have a1:J.heap.get? a=some o:=(P.pre ⟨a,o,false⟩ (by rw[k];exact .head _)).1;have V:(I.heap.update a f).get? a=some (f p0):=Heap.get?_update_self f N a2;have t:∀d,d≠a->(I.heap.update a f).get? d=I.heap.get? d:=λd p=>Heap.get?_update_ne _ _ _ _ p
 have a4:a∈addrs E.pre:=by rw[k];exact .head _
 have sY:∀j:cK,j.addr≠a->cR I.heap j->cR (I.heap.update a f) j:=λj r l=>l.same (t _ r)
 have W:∀d i,I.heap.get? d=some i->∃v,(I.heap.update a f).get? d=some v/\kF i v:=λd i l=>by
  by_cases g:d=a
  ·subst g;rw[N]at l;cases l;exact⟨_,V,a3⟩
  ·exact⟨i,(t d g).trans l,.refl _⟩
 refine⟨⟨λd i p w=> ?_,λd i p=> ?_,h.step.os,λX ag l Y=>h.step.gens X ag l (by rw[n]at Y;exact Y)⟩, ?_,λg q=> ?_,by rw[G,n];exact h.Vi,λg q=>h.UQ g (by rw[G,n]at q;exact q),λj r=> ?_,by rw[H];exact h.VK,λac R=>h.UW ac (by rw[L]at R;exact R),by rw[L];exact h.Vj,λB M=> ?_,h.bare⟩
 ·have O:d≠a:=λg=>w (by rw[m];exact g▸a4)
  rcases h.step.chg d i p (by rw[m]at w;exact w)with g|⟨g,af,C⟩
  ·exact .inl ((t d O).trans g)
  ·exact .inr ⟨g,af,(t d O).trans C⟩
 ·obtain⟨aa,z,A⟩:=h.step.U7 d i p;obtain⟨ab,a8,a9⟩:=W d aa z;exact⟨ab,a8,A.trans a9⟩
 ·rw[D,m,k];rw[x,k]at Q;exact Q
 ·rw[D,m,k,List.zip_cons_cons]at q;rcases t6 q with e|e
  ·subst e;exact V
  ·have a6:g∈E.pre.zip (E.post y b):=by rw[k,x,List.zip_cons_cons];exact .tail _ e
   have F:=P.nd;rw[k]at F;have T:=t8 (f:=cK.addr) (List.of_mem_zip e).1;have:g.1.addr≠a:=λae=>(List.nodup_cons.mp F).1 (by rw[ae]at T;exact T)
   exact sY _ this (h.post g a6)
 ·rw[H]at r;have s:=h.new j r;have:j.addr≠a:=λg=>by rw[g,a1]at s;cases s.2
  exact⟨sY j this s.1,s.2⟩
 ·rw[a0]at M;exact eM.imp (λah C ⟨d,i,e,m,n⟩=>by
   obtain⟨v,z,A⟩:=W d i m;exact⟨d,v,e,z,A.row C n⟩) (h.US B M)
def s2(b:Wy (Nat×gi))(a:uk):mw:=⟨pl b,[],λ_ _=>a,nn,nn,nn,[],nn⟩
def FR(b:String)(a:ui)(d:Wy (Nat×gi))(c:uk)(e:Wz):Spec:=⟨.builtin b ⟨a,[]⟩,4,none,s2 d c,λ_ _=>uj e⟩
theorem FS{id:String}{B:Builtin}{args:ui}{pre:Wy (Nat×gi)}(G:plainId id=true)(A:entryFor table id=some B)(C:(f o).isFreed=false)(D:kF o (f o))
 (t:∀(b:WK) (c:WF) (k:Wz->WF->Prop) (E:Wz->WF->Prop),b.depth<=900->b.units<=9000->b.handled=none->gq K c.heap->(∀m∈(a,o)::pre,c.heap.get? m.1=some m.2)->(∀g,k v {c with heap:=c.heap.update a f,toks:=g})->
   wpAny (model P w) b (B ⟨args,[]⟩) (λl d=>∃j,l= .done (.ret j)/\k j d) E c):ct P w K (FR id args ((a,o)::pre) (f o::pre.map (·.2)) v):=by
 intro b R c h M r q e x;refine codeAny_of_tree ?_;show wpAny _ (b.under (.builtin id ⟨args,[]⟩)) (match entryFor table id with|some p=>p ⟨args,[]⟩|none=>unsupported ((withoutEnding? id "#data").getD id)) _ _ c
 rw[A,Around.under_plainId G];have y:=h.dep;have J:=h.U9;have z:(FR id args ((a,o)::pre) (f o::pre.map (·.2)) v).dep=4:=rfl;rw[z]at y J;have i:d7 K (kJ ((a,o)::pre)) (cC b) c:=⟨e.pre,e.nd,e.UR,e.U6,e.UX⟩;refine wpAny_mono (t b.in1 c (λv d=>R (.ok (.ret v)) d) (λs d=>R (.error s) d) (by show b.depth<=900;omega) (by show b.units+1<=9000;omega) h.hd r (el i) λg=> ?_) (λl d H=> ?_) λ_ _ L=>L
 ·refine x (λ_=>0) (λ_=> #[]) _ ?_
  have n:=gA (al:=λ_=>0) (sl:=λ_=> #[]) (s1:={c with toks:=g}) i q ⟨g,rfl⟩
  exact ix (E':=s2 ((a,o)::pre) (f o::pre.map (·.2))) (o:=o) (p0:=o) (Pr:=pl pre) (ps:=pre.map (·.2)) (f:=f) n i rfl rfl C D rfl rfl rfl rfl rfl rfl rfl rfl
 ·obtain⟨j,rfl,I⟩:=H;exact I
theorem kM(a:Nat)(d:Wz)(c:String)(b:ui):Obj.mapFields (·.setIfInBounds a d) (dL c b)=dL c (b.set a d):=by unfold dL Obj.mapFields;simp
def xf(a b:Nat)(d:Nat)(e:ug)(c:Nat)(f:Wz):Spec:=FR "list_iterator.__next__" [.ref a] [(a,dp b a d),(b,cm e c)] [dp b a (d+1:Nat),cm e c] f
theorem iy(m:H[g]?=some v):ct P w K (xf e d g H h v):=by
 have c:Obj.mapFields (·.setIfInBounds 1 (.int (g+1:Nat) 0)) (dp d e g)=dp d e (g+1:Nat):=kM 1 _ _ _;have:=FS (P:=P) (w:=w) (K:=K) (id:= "list_iterator.__next__") (args:=[.ref e]) (a:=e) (o:=dp d e g) (pre:=[(d,cm H h)]) (f:=Obj.mapFields (·.setIfInBounds 1 (.int (g+1:Nat) 0))) (v:=v) (by decide+kernel) entry_listiter_next (by rw[c];rfl) (by rw[c];exact eS rfl) λn b p E _ _ _ _ j l=>by
  have i:b.heap.get? e=some (dp d e g):=j (e,dp d e g) (.head _);have k:b.heap.get? d=some (cm H h):=j (d,cm H h) (.tail _ (.head _));show wpAny _ _ (field (.ref e) 0>>=_) _ _ b;refine ci (wpAny_field i rfl (x:= .ref d) rfl ?_);show wpAny _ _ (if(Value.ref d==Value.none)=true then _ else _) _ _ b;rw[if_neg (show ¬((Value.ref d==Value.none)=true)from Bool.false_ne_true)];show wpAny _ _ (field (.ref e) 1>>=_) _ _ b;refine ci (wpAny_field i rfl (x:= .int g 0) rfl ?_);show wpAny _ _ (seqItems? (.ref d)>>=_) _ _ b;refine ci (wpAny_seqItems k rfl ?_);simp only[Int.toNat_natCast,m];exact ci (wpAny_setField i rfl (by simp) (cj ⟨v,rfl,l b.toks⟩))
 rw[c]at this;exact this
def jM(b e:Nat)(d:Nat)(f:ug)(c:Nat):Spec:=
 ⟨um "list_iterator.__next__" [.ref b],4,none,⟨pl [(b,dp e b d),(e,cm f c)],[],λ_ _=>[dL "list_iterator" [.none,.int d 0],cm f c],nn,λa _=>pl [(a 1,qZ (a 0)),(a 0,eE #[])],nn,[],nn⟩,λa _=>.error (.ref (a 1))⟩
set_option maxHeartbeats 1000000 in
theorem fP(J:H[g]?=none):ct P w K (jM e d g H h):=by
 have o:Obj.mapFields (·.setIfInBounds 0 .none) (dp d e g)=dL "list_iterator" [.none,.int g 0]:=kM 0 _ _ _;intro s R b L N M D l i;refine dY (by decide+kernel) entry_listiter_next ?_;have n:d7 K (kJ [(e,dp d e g),(d,cm H h)]) (cC s) b:=⟨l.pre,l.nd,l.UR,l.U6,λB G=>by cases G⟩
 have q:b.heap.get? e=some (dp d e g):=el n _ (.head _);have I:b.heap.get? d=some (cm H h):=el n _ (.tail _ (.head _));show wpAny _ _ (field (.ref e) 0>>=_) _ _ b;refine ci (wpAny_field q rfl (x:= .ref d) rfl ?_);show wpAny _ _ (if(Value.ref d==Value.none)=true then _ else _) _ _ b;rw[if_neg (show ¬((Value.ref d==Value.none)=true)from Bool.false_ne_true)];show wpAny _ _ (field (.ref e) 1>>=_) _ _ b;refine ci (wpAny_field q rfl (x:= .int g 0) rfl ?_);show wpAny _ _ (seqItems? (.ref d)>>=_) _ _ b;refine ci (wpAny_seqItems I rfl ?_);simp only[Int.toNat_natCast,J];refine ci (wpAny_rule (ci (wpAny_setField q rfl (by simp) ?_)));show wpAny _ _ (newExc (.type "StopIteration") []>>=_) _ _ _;refine ci ?_;simp only[newExc,newTuple];refine ci (wpAny_newObj_type ?_ (by size_fits));refine ci (m:=firstArgMember _ _) (wpAny_of_eq (a:=Value.none) (by first|rfl|(simp only[firstArgMember];rfl)) ?_);refine wpAny_newObj_type ?_ (by size_fits);simp only[raiseNew];refine ci (wpAny_handled ?_);rw[show s.in1.handled=none from L.hd];refine ci (cj (wpAny_throw ?_));have r:∀(i:Heap) (k:gi),(i.push k).objs.size=i.objs.size+1:=λi k=>by first|exact Heap.size_push .. |simp[Heap.push]
 have j:(b.heap.update e (Obj.mapFields (·.setIfInBounds 0 .none))).objs.size=b.heap.objs.size:=by
  first|exact Heap.size_update .. |simp[Heap.update]
 have t:=gA (al:=λ_=>0) (sl:=λ_=> #[]) (s1:=b) n D ⟨b.toks,rfl⟩
 have v:=ix (E':=s2 [(e,dp d e g),(d,cm H h)] [dL "list_iterator" [.none,.int g 0],cm H h]) (o:=dp d e g) (p0:=dp d e g) (Pr:=pl [(d,cm H h)]) (ps:=[cm H h]) (f:=Obj.mapFields (·.setIfInBounds 0 .none)) t n rfl rfl (by rw[o];rfl) (by rw[o];exact eS rfl) rfl rfl (by rw[o];rfl) rfl rfl rfl rfl rfl;have y:=gO (E':=⟨pl [(e,dp d e g),(d,cm H h)],[],λ_ _=>[dL "list_iterator" [.none,.int g 0],cm H h],nn,λA _=>pl [(A 0,eE #[])],nn,[],nn⟩) (al':=cons b.heap.objs.size (λ_=>b.heap.objs.size+1)) (c:=⟨b.heap.objs.size,eE #[],false⟩) v rfl rfl rfl rfl rfl rfl j.symm rfl rfl rfl (λC k p=>by rw[j];exact Heap.lt_size p)
 have z:=gO (E':=(jM e d g H h).UM) (al':=cons b.heap.objs.size (λ_=>b.heap.objs.size+1)) (c:=⟨b.heap.objs.size+1,qZ b.heap.objs.size,false⟩) y rfl rfl rfl rfl rfl rfl (by rw[show ∀(i:Heap) (k:gi),(i.push k).objs.size=i.objs.size+1 from r,j]) rfl rfl rfl (λC k p=>by rw[r,j];exact Nat.lt_succ_of_lt (Heap.lt_size p))
 have:=i _ _ _ z;rw[j];show R (.error (.ref _)) _;rw[r,j];exact this
end
end
section
open PySem.Calls
section
variable {P:WJ} {w:WG} {K:Nat->WA gi}
theorem gQ(a:ug)(b:Nat)(c:Wz):Obj.mapSeq (·.push c) (cm a b)=cm (a.push c) (b+1):=by unfold cm Obj.mapSeq;simp
theorem yN(b:ug)(a:Nat):hQ (cm b a)=none:=rfl
theorem g0(e:ug)(c:Nat)(b:gi)(d:ew b=true):kF (cm e c) b:=⟨λ_=>d,λf a=>by rw[yN]at a;cases a⟩
def M2(c:Nat)(a:ug)(b:Nat)(d:Wz):Spec:=FR "list.append" [.ref c,d] [(c,cm a b)] [cm (a.push d) (b+1)] .none
theorem lC{l:Nat}{as:ug}{ep:Nat}(j:as.size<=1000000):ct P w K (M2 l as ep v):=by
 have b:=gQ as ep v;have:=FS (P:=P) (w:=w) (K:=K) (id:= "list.append") (args:=[.ref l,v]) (a:=l) (o:=cm as ep) (pre:=[]) (f:=Obj.mapSeq (·.push v)) (v:= .none) (by decide+kernel) entry_list_append (by rw[b];rfl) (by rw[b];exact g0 _ _ _ rfl) λh c i E _ _ _ _ e g=>by
  have d:c.heap.get? l=some (cm as ep):=e (l,cm as ep) (.head _);show wpAny _ _ (updateSeq l (·.push v)>>=λ_=>ret .none) _ _ c
  refine ci (wpAny_updateSeq d rfl (cj ⟨.none,rfl,g c.toks⟩) (hz:= ?_) (_hz':= ?_))
  all_goals (first|(unfold sizeLine;omega)|(rw[Array.size_push];unfold sizeLine;omega))
 rw[b]at this;exact this
theorem ct.alt{S a:Spec}(q:ct P w K S)(r:a.code=S.code)(s:a.dep=S.dep)(t:a.top=S.top)(g:a.UM.pre=S.UM.pre)(h:a.UM.UR=S.UM.UR)(v:a.UM.UX=S.UM.UX)
 (n:∀c e,∃d f,S.res c e=a.res d f/\S.UM.post c e=a.UM.post d f/\S.UM.UQ c e=a.UM.UQ d f/\S.UM.new c e=a.UM.new d f/\S.UM.UW c e=a.UM.UW d f/\S.UM.US c e=a.UM.US d f):ct P w K a:=by
 intro k R z y p m l i x;rw[r];refine q k R z (by rw[<-s,<-t];exact y) p m l ⟨by rw[<-g];exact i.pre,by rw[<-g];exact i.nd,by rw[<-h];exact i.UR,by rw[<-h];exact i.U6,by rw[<-v];exact i.UX⟩ λc e s1 b=> ?_
 obtain⟨d,f,e0,e1,e2,e3,j,o⟩:=n c e;rw[e0];exact x d f s1 ⟨by rw[g,h];exact b.step,by rw[<-e1,g];exact b.len,by rw[<-e1,g];exact b.post,by rw[<-e2,h];exact b.Vi,by rw[<-e2,h];exact b.UQ,by rw[<-e3];exact b.new,by rw[<-e3];exact b.VK,by rw[<-j];exact b.UW,by rw[<-j];exact b.Vj,by rw[<-o];exact b.US,b.bare⟩
theorem eM.get{b c:Type}{d:b->c->Prop}:∀{f:Wy b} {j:Wy c},eM d f j->∀{i:Nat} {a:b},f[i]?=some a->∃g,j[i]?=some g/\d a g
 |[],[],_,i,a,e=>by simp at e
 |x::f,k::j,e,0,a,h=>by
  simp only[List.getElem?_cons_zero,Option.some.injEq]at h;subst h;exact⟨k,by simp,e.1⟩
 |x::f,k::j,e,i+1,a,h=>by
  have l:f[i]?=some a:=by simpa using h
  obtain⟨g,m,n⟩:=eM.get e.2 l;exact⟨g,by simpa using m,n⟩
 |[],_::_,e,_,_,_=>e.elim
 |_::_,[],e,_,_,_=>e.elim
theorem eM.length{b c:Type}{d:b->c->Prop}:∀{e:Wy b} {f:Wy c},eM d e f->e.length=f.length
 |[],[],_=>rfl
 |x::e,g::f,a=>congrArg (· +1) (eM.length a.2)
 |[],_::_,a=>a.elim
 |_::_,[],a=>a.elim
theorem ct.member{S:Spec}{xs:ug}{rows:Wy dh}(l:(⟨xs,rows⟩:jz)∈S.UM.UX)
 (k:xs.size=rows.length->(∀(c:Nat) a,xs[c]?=some a->∃b,a= .ref b)->ct P w K S):ct P w K S:=by
 intro f R p o j h g e n;have d:=e.UX _ l;refine k ?_ (λc a m=> ?_) f R p o j h g e n
 ·have:=eM.length d;simpa using this
 ·obtain⟨r,_,b,q,i,_⟩:=eM.get d (i:=c) (a:=a) (by simpa using m);exact⟨b,i⟩
theorem ct.more{S:Spec}{bs:Wy jz}(c:ct P w K ⟨S.code,S.dep,S.top,⟨S.UM.pre,S.UM.UR,S.UM.post,S.UM.UQ,S.UM.new,S.UM.UW,bs,S.UM.US⟩,S.res⟩)(i:∀c:Heap,(∀B∈S.UM.UX,dV c B)->∀B∈bs,dV c B):ct P w K S:=λd R l k h g f b j=>
 c d R l k h g f ⟨b.pre,b.nd,b.UR,b.U6,i _ b.UX⟩ λe m s1 a=>j e m s1 ⟨a.step,a.len,a.post,a.Vi,a.UQ,a.new,a.VK,a.UW,a.Vj,a.US,a.bare⟩
theorem dV.at{b:Heap}{H:ug}{M:Wy dh}(e:dV b ⟨H,M⟩){i:Nat}{v:Wz}{c:dh}(j:H[i]?=some v)(h:M[i]?=some c):dV b ⟨#[v],[c]⟩:=by obtain⟨k,f,g⟩:=eM.get e (i:=i) (a:=v) (by simpa using j);have d:M[i]?=some k:=f;rw[h]at d;cases d;exact⟨g,cg⟩
end
end
variable {z:AL}
section
open PySem.Calls
def h4(a:cl):gi:=⟨.type "bytearray",none,.bytearray a 0,#[]⟩
section
variable {P:WJ} {w:WG} {K:Nat->WA gi}
theorem eh.comp{c:Wy (Nat×gi)}{e:uk}{a d:mw}{b f:SL}{s1:WF}(q:eh (s2 c e) Z z f I s1)(a6:d7 K (s2 c e) Z I)(Y:e.length=c.length)(h:eh a Z y b s1 J)
 (o:a.pre=((pl c).zip e).map λg=>⟨g.1.addr,g.2,g.1.fr⟩)(M:a.UR=[])(s:d.pre=pl c)(w:d.UR=[])(A:d.post y b=a.post y b)(a0:d.UQ y b=a.UQ y b)(R:d.new y b=a.new y b)(T:d.UW y b=a.UW y b)(X:d.US y b=a.US y b):eh d Z y b I J:=by
 have W:((pl c).zip e).map (·.1)=pl c:=List.map_fst_zip (by unfold pl;rw[List.length_map];omega);have x:addrs a.pre=addrs (pl c):=by
  rw[o];unfold addrs;rw[List.map_map];have:((λk:cK=>k.addr) ∘λg:cK×gi=>(⟨g.1.addr,g.2,g.1.fr⟩:cK))=(λk:cK=>k.addr) ∘Prod.fst:=rfl
  rw[this,<-List.map_map,W]
 have F:a.pre.length=(pl c).length:=by
  have:=congrArg List.length x;unfold addrs at this;simpa using this
 have P:∀m H,I.heap.get? m=some H->∃a5,s1.heap.get? m=some a5:=λm H n=>by
  obtain⟨G,r,_⟩:=q.step.U7 m H n;exact⟨G,r⟩
 have a1:∀g∈d.pre.zip (d.post y b),∃j∈a.pre.zip (a.post y b),j.1.addr=g.1.addr/\j.1.fr=g.1.fr/\j.2=g.2:=by
  rw[s,A,o];generalize a.post y b=p;clear A h o x F W a6 q P s;induction c generalizing e p with
  |nil=>intro g i;simp[pl]at i
  |cons l c a2=>
   cases e with
   |nil=>simp at Y
   |cons a3 e=>
    cases p with
    |nil=>intro g i;simp at i
    |cons L p=>
     intro g i;have C:g∈(⟨l.1,l.2,false⟩,L)::(pl c).zip p:=i;rcases t6 C with rfl|C
     ·exact⟨(⟨l.1,a3,false⟩,L),.head _,rfl,rfl,rfl⟩
     ·obtain⟨j,v,o⟩:=a2 (by simpa using Y) p g C;exact⟨j,.tail _ v,o⟩
 refine⟨?_,by rw[A,s,h.len,F],λg i=> ?_,by rw[a0,w];rw[<-M];exact h.Vi,λg i=>by rw[w]at i;simp at i,λk O=> ?_,by rw[R];exact h.VK,λl V=> ?_,by rw[T];exact h.Vj,by rw[X];exact h.US,h.bare⟩
 ·rw[s,w];refine q.step.trans (as1:=addrs a.pre) (gs1:=eg a.UR) h.step (λa8 N=>.inl (by rw[x]at N;exact N)) λab Q=> ?_
  rw[M]at Q;simp[eg]at Q
 ·obtain⟨j,v,e1,e2,e3⟩:=a1 g i;have:=h.post j v;obtain⟨⟨m,a4,a9⟩,L⟩:=g;obtain⟨⟨a7,G,aa⟩,ac⟩:=j;simp only at e1 e2 e3;subst e1 e2 e3;exact this
 ·rw[R]at O;obtain⟨D,t⟩:=h.new k O;refine⟨D, ?_⟩;cases n:I.heap.get? k.addr with
  |none=>rfl
  |some a4=>obtain⟨G,r⟩:=P _ _ n;rw[t]at r;cases r
 ·rw[T]at V;obtain⟨D,t⟩:=h.UW l V;refine⟨D, ?_⟩;cases n:I.gens[l.1]? with
  |none=>rfl
  |some ae=>rw[q.step.gens _ _ n (by simp[s2,eg])]at t;cases t
theorem ro{E:Wz->WF->Prop}{a b:Addr}{e:WA Wz->WF->Prop}(f:I.heap.get? a=some (dp b a c))(i:I.heap.get? b=some (cm H d))(j:H[c]?=some v)
 (h:e (some v) {I with heap:=I.heap.update a (Obj.mapFields (·.setIfInBounds 1 (.int (c+1:Nat) 0)))}):wpAny (model P w) F (pyNext (.ref a)) e E I:=by
 unfold pyNext;have g:I.TypeIs (.ref a) "list_iterator" :=⟨_,f,rfl⟩;refine ci (wpAny_attempt (wpAny_callSpecial?_slot (name:=Str.ofString "__next__") g slot_listiter_next
  (wpAny_call_entry slot_listiter_next g entry_listiter_next ?_ (args_listiter_next _))))
 show wpAny _ _ (field (.ref a) 0>>=_) _ _ I;refine ci (wpAny_field f rfl (x:= .ref b) rfl ?_);show wpAny _ _ (if(Value.ref b==Value.none)=true then _ else _) _ _ I;rw[if_neg (show ¬((Value.ref b==Value.none)=true)from Bool.false_ne_true)];show wpAny _ _ (field (.ref a) 1>>=_) _ _ I;refine ci (wpAny_field f rfl (x:= .int c 0) rfl ?_);show wpAny _ _ (seqItems? (.ref b)>>=_) _ _ I;refine ci (wpAny_seqItems i rfl ?_);simp only[Int.toNat_natCast,j];exact ci (wpAny_setField f rfl (by simp) (cj ⟨v,rfl,cj h⟩))
theorem on:entryFor table "bytes.__new__.loop" =some Builtin.«bytes.__new__.loop»:=entryFor_of_tree (by kernel_rfl)
def FT(e a c:Nat)(i d:Nat)(b:ug)(h f:cl):Spec:=
 ⟨um "bytes.__new__.loop" [.type "bytes",.ref a,.ref c],12,none,⟨pl [(a,dp e a i),(e,cm b d),(c,h4 h)],[],λ_ _=>[dL "list_iterator" [.none,.int b.size 0],cm b d,h4 f],nn,nn,nn,[],nn⟩,λg _=>uj (.bytes f (g 0))⟩
set_option maxHeartbeats 1000000 in
theorem CH{b t:Nat}{n:Nat}(J:H[c]?=some (.int n t))(Q:n<256)(aC:k.size<1000000)(al:ct P w K (FT b a e (c+1) d H (k.push n.toUInt8) l)):ct P w K (FT b a e c d H k l):=by
 intro x R h T Z a5 N g aa;refine dY (by decide+kernel) on ?_;have L:d7 K (kJ [(a,dp b a c),(b,cm H d),(e,h4 k)]) (cC x) h:=⟨g.pre,g.nd,g.UR,g.U6,λB i=>by cases i⟩
 have ag:h.heap.get? a=some (dp b a c):=el L _ (.head _);have aj:h.heap.get? b=some (cm H d):=el L _ (.tail _ (.head _));have ah:h.heap.get? e=some (h4 k):=el L _ (.tail _ (.tail _ (.head _)));have af:a≠e:=by
  have F:=g.nd;have r:[a,b,e].Nodup:=F;simp at r;exact r.1.2
 show wpAny _ _ (pyNext (.ref a)>>=_) _ _ h;refine ci (ro ag aj J ?_);refine ci (wpAny_holding (cj ?_));refine ci (wpAny_letGo ?_);rw[if_neg (by simp;omega)];have C:Obj.mapFields (·.setIfInBounds 1 (.int (c+1:Nat) 0)) (dp b a c)=dp b a (c+1:Nat):=kM 1 _ _ _;have W:(h.heap.update a (Obj.mapFields (·.setIfInBounds 1 (.int (c+1:Nat) 0)))).get? e=some (h4 k):=(Heap.get?_update_ne _ _ _ _ (Ne.symm af)).trans ah;have ai:((h.heap.update a (Obj.mapFields (·.setIfInBounds 1 (.int (c+1:Nat) 0)))).update e (Obj.mapBytearray (·.push n.toUInt8))).get? e=some (h4 (k.push n.toUInt8)):=by
  have:=Heap.get?_update_self (Obj.mapBytearray (·.push n.toUInt8)) W rfl;exact this
 refine ci (m:=Builtin.Bytes.write _ _) ?_;show wpAny _ _ (updateBytearray e _) _ _ _;unfold updateBytearray;refine ci (wpAny_load W ?_);refine ci (wpAny_updatePart W ?_);refine wpAny_lookBehind ai ?_ ?_
 ·show Data.pastItsLine (.bytearray (k.push n.toUInt8) 0)=none;unfold Data.pastItsLine;have:k.size+1<=sizeLine:=by unfold sizeLine;omega
  simp;exact this
 refine cj ⟨by kernel_rfl, ?_⟩;have a1:=gA (al:=λ_=>0) (sl:=λ_=> #[]) (s1:=h) L N ⟨h.toks,rfl⟩
 have z:=ix (E':=s2 [(a,dp b a c),(b,cm H d),(e,h4 k)] [dp b a (c+1:Nat),cm H d,h4 k]) (o:=dp b a c) (p0:=dp b a c) (Pr:=pl [(b,cm H d),(e,h4 k)]) (ps:=[cm H d,h4 k]) (f:=Obj.mapFields (·.setIfInBounds 1 (.int (c+1:Nat) 0))) a1 L rfl rfl (by rw[C];rfl) (by rw[C];exact eS rfl) rfl rfl (by rw[C];rfl) rfl rfl rfl rfl rfl;have ay:d7 K (s2 [(e,h4 k),(a,dp b a c),(b,cm H d)] [h4 k,dp b a (c+1:Nat),cm H d]) (cC x) h:=by
  have F:=g.nd;have r:[a,b,e].Nodup:=F;refine⟨λp j=> ?_, ?_,g.UR,g.U6,λB i=>by cases i⟩
  ·have D:p∈[(⟨e,h4 k,false⟩:cK),⟨a,dp b a c,false⟩,⟨b,cm H d,false⟩]:=j;simp only[List.mem_cons,List.not_mem_nil,or_false]at D;rcases D with rfl|rfl|rfl
   ·exact g.pre _ (.tail _ (.tail _ (.head _)))
   ·exact g.pre _ (.head _)
   ·exact g.pre _ (.tail _ (.head _))
  ·show[e,a,b].Nodup;simp at r|-;exact⟨⟨Ne.symm r.1.2,Ne.symm r.2⟩,r.1.1⟩
 have a2:eh (s2 [(e,h4 k),(a,dp b a c),(b,cm H d)] [h4 k,dp b a (c+1:Nat),cm H d]) (cC x) (λ_=>0) (λ_=> #[]) h {h with heap:=h.heap.update a (Obj.mapFields (·.setIfInBounds 1 (.int (c+1:Nat) 0)))}:=by
  refine⟨⟨λv s J Q=>z.step.chg v s J λq=>Q ?_,z.step.U7,rfl,λa9 aB V _=>V⟩,rfl,λq o=> ?_,rfl,λq o=>(by cases o),λp j=>(by cases j),List.nodup_nil,λaw X=>(by cases X),List.nodup_nil,λB i=>(by cases i),N⟩
  ·have M:v∈[a,b,e]:=q;show v∈[e,a,b];simp at M|-;rcases M with q|q|q<;>simp[q]
  ·have I:q∈[((⟨e,h4 k,false⟩:cK),h4 k),(⟨a,dp b a c,false⟩,dp b a (c+1:Nat)),(⟨b,cm H d,false⟩,cm H d)]:=o;simp only[List.mem_cons,List.not_mem_nil,or_false]at I;rcases I with rfl|rfl|rfl
   ·exact z.post (⟨e,h4 k,false⟩,h4 k) (.tail _ (.tail _ (.head _)))
   ·exact z.post (⟨a,dp b a c,false⟩,dp b a (c+1:Nat)) (.head _)
   ·exact z.post (⟨b,cm H d,false⟩,cm H d) (.tail _ (.head _))
 have A:=ix (E':=s2 [(e,h4 k),(a,dp b a c),(b,cm H d)] [h4 (k.push n.toUInt8),dp b a (c+1:Nat),cm H d]) (o:=h4 k) (p0:=h4 k) (Pr:=pl [(a,dp b a c),(b,cm H d)]) (ps:=[dp b a (c+1:Nat),cm H d]) (f:=Obj.mapBytearray (·.push n.toUInt8)) a2 ay rfl rfl rfl ⟨λ_=>rfl,λl ak=>by cases ak⟩ rfl rfl rfl rfl rfl rfl rfl rfl
 have y:eh (s2 [(a,dp b a c),(b,cm H d),(e,h4 k)] [dp b a (c+1:Nat),cm H d,h4 (k.push n.toUInt8)]) (cC x) (λ_=>0) (λ_=> #[]) h {h with heap:=(h.heap.update a (Obj.mapFields (·.setIfInBounds 1 (.int (c+1:Nat) 0)))).update e (Obj.mapBytearray (·.push n.toUInt8))}:=by
  refine⟨⟨λv s J Q=>A.step.chg v s J λq=>Q ?_,A.step.U7,rfl,λa9 aB V _=>V⟩,rfl,λq o=> ?_,rfl,λq o=>(by cases o),λp j=>(by cases j),List.nodup_nil,λaw X=>(by cases X),List.nodup_nil,λB i=>(by cases i),N⟩
  ·have M:v∈[e,a,b]:=q;show v∈[a,b,e];simp at M|-;rcases M with q|q|q<;>simp[q]
  ·have I:q∈[((⟨a,dp b a c,false⟩:cK),dp b a (c+1:Nat)),(⟨b,cm H d,false⟩,cm H d),(⟨e,h4 k,false⟩,h4 (k.push n.toUInt8))]:=o;simp only[List.mem_cons,List.not_mem_nil,or_false]at I;rcases I with rfl|rfl|rfl
   ·exact A.post (⟨a,dp b a c,false⟩,dp b a (c+1:Nat)) (.tail _ (.head _))
   ·exact A.post (⟨b,cm H d,false⟩,cm H d) (.tail _ (.tail _ (.head _)))
   ·exact A.post (⟨e,h4 k,false⟩,h4 (k.push n.toUInt8)) (.head _)
 have ax:d7 K (s2 [(a,dp b a c),(b,cm H d),(e,h4 k)] [dp b a (c+1:Nat),cm H d,h4 (k.push n.toUInt8)]) (cC x) h:=⟨g.pre,g.nd,g.UR,g.U6,λB i=>by cases i⟩
 have a6:gq K ((h.heap.update a (Obj.mapFields (·.setIfInBounds 1 (.int (c+1:Nat) 0)))).update e (Obj.mapBytearray (·.push n.toUInt8))):=λY s O=>by
  have ab:=a5 Y s O;rcases y.step.chg Y s ab (λq=>by
   obtain⟨p,j,C⟩:=ua q;have:=(g.pre p j).2.1;rw[C,O]at this;cases this)with q|⟨q,_⟩
  ·exact q
  ·rw[(fM Z Y q).1]at O;cases O
 refine al x R _ ⟨T.hd,T.top,T.dep,T.U9⟩ (by
  obtain⟨a8,ae,o⟩:=Z;refine⟨a8,ae,λa7 ac=> ?_⟩
  obtain⟨an,a0,s,ao,ap,aq,ar⟩:=o a7 ac;obtain⟨av,as,au⟩:=y.step.U7 _ _ ap;exact⟨an,a0,av,ao,as,au.nf aq,ar⟩) a6 N ⟨λp j=> ?_,g.nd,g.UR,g.U6,λB i=>by cases i⟩ λa4 aA az a3=> ?_
 ·have D:p∈[(⟨a,dp b a (c+1:Nat),false⟩:cK),⟨b,cm H d,false⟩,⟨e,h4 (k.push n.toUInt8),false⟩]:=j;simp only[List.mem_cons,List.not_mem_nil,or_false]at D;rcases D with rfl|rfl|rfl
  ·have G:=g.pre (⟨a,dp b a c,false⟩) (.head _);exact⟨y.post (⟨a,dp b a c,false⟩,dp b a (c+1:Nat)) (.head _),G.2⟩
  ·have G:=g.pre (⟨b,cm H d,false⟩) (.tail _ (.head _));exact⟨y.post (⟨b,cm H d,false⟩,cm H d) (.tail _ (.head _)),G.2⟩
  ·have G:=g.pre (⟨e,h4 k,false⟩) (.tail _ (.tail _ (.head _)));exact⟨y.post (⟨e,h4 k,false⟩,h4 (k.push n.toUInt8)) (.tail _ (.tail _ (.head _))),G.2⟩
 ·exact aa a4 aA az (y.comp ax rfl a3 rfl rfl rfl rfl rfl rfl rfl rfl rfl)
theorem yO{b a e d:Nat}{H:ug}{l:cl}(q:ct P w K (FT b a e H.size d H l l)):∀(k c:Nat) (f:cl),c+k=H.size->(∀j h,c<=j->H[j]?=some h->∃g p,h= .int (g:Nat) p/\g<256)->
  f++((H.toList.drop c).map λh=>match h with| .int g _=>g.toNat.toUInt8|_=>0).toArray=l->f.size+k<1000000->ct P w K (FT b a e c d H f l)
 |0,c,f,t,o,n,x=>by
  have i:c=H.size:=by omega
  subst i;have:f=l:=by
   rw[<-n];simp
  subst this;exact q
 |k+1,c,f,t,o,n,x=>by
  have m:c<H.size:=by omega
  obtain⟨g,p,i,v⟩:=o c H[c] (Nat.le_refl _) (by simp[m]);refine CH (n:=g) (t:=p) (by rw[<-i];simp[m]) v (by omega) (yO q k (c+1) _ (by omega) (λj h y r=>o j h (by omega) r) ?_ (by rw[Array.size_push];omega))
  rw[<-n];have s:H.toList.drop c=H[c]::H.toList.drop (c+1):=by
   rw[List.drop_eq_getElem_cons (by simpa using m)];simp
  rw[s,i];simp
end
end
variable {s t:Int}
section
open PySem.Calls
section
variable {P:WJ} {w:WG} {K:Nat->WA gi}
theorem ur:entryFor table "range_iterator.__next__" =some Builtin.«range_iterator.__next__»:=entryFor_of_tree (by kernel_rfl)
def fS(b left a:Int):gi:=dL "range_iterator" [.int b 0,.int left 0,.int a 0]
def yP(a:Nat)(c left b f e:Int):Spec:=⟨um "range_iterator.__next__" [.ref a],4,none,⟨pl [(a,fS c left b)],[],λ_ _=>[fS f e b],nn,nn,nn,[],nn⟩,λd _=>uj (.int c (d 0))⟩
theorem tE{left:Int}(C:0<left)(n:s+q=r)(p:left-1=t):ct P w K (yP a s left q r t):=by
 intro i R c D A z l d m;refine dY (by decide+kernel) ur ?_;have h:d7 K (kJ [(a,fS s left q)]) (cC i) c:=⟨d.pre,d.nd,d.UR,d.U6,λB g=>by cases g⟩
 have e:c.heap.get? a=some (fS s left q):=el h _ (.head _);have e1:Obj.mapFields (·.setIfInBounds 0 (.int r 0)) (fS s left q)=fS r left q:=kM 0 _ _ _;have e2:Obj.mapFields (·.setIfInBounds 1 (.int t 0)) (fS r left q)=fS r t q:=kM 1 _ _ _;have v:(c.heap.update a (Obj.mapFields (·.setIfInBounds 0 (.int r 0)))).get? a=some (fS r left q):=by
  have:=Heap.get?_update_self (Obj.mapFields (·.setIfInBounds 0 (.int r 0))) e (by rw[e1];rfl);rw[e1]at this;exact this
 show wpAny _ _ (field (.ref a) 0>>=_) _ _ c;refine ci (wpAny_field e rfl (x:= .int s 0) rfl ?_);show wpAny _ _ (field (.ref a) 1>>=_) _ _ c;refine ci (wpAny_field e rfl (x:= .int left 0) rfl ?_);show wpAny _ _ (field (.ref a) 2>>=_) _ _ c;refine ci (wpAny_field e rfl (x:= .int q 0) rfl ?_);dsimp only;rw[if_neg (by omega)];have j:=gA (al:=λ_=>c.toks) (sl:=λ_=> #[]) (s1:=c) h l ⟨c.toks,rfl⟩
 have k:=ix (E':=s2 [(a,fS s left q)] [fS r left q]) (o:=fS s left q) (p0:=fS s left q) (Pr:=[]) (ps:=[]) (f:=Obj.mapFields (·.setIfInBounds 0 (.int r 0))) j h rfl rfl (by rw[e1];rfl) (by rw[e1];exact eS rfl) rfl rfl (by rw[e1];rfl) rfl rfl rfl rfl rfl;have y:d7 K (s2 [(a,fS s left q)] [fS r left q]) (cC i) c:=⟨d.pre,d.nd,d.UR,d.U6,λB g=>by cases g⟩
 have b:=ix (E':=(yP a s left q r t).UM) (o:=fS s left q) (p0:=fS r left q) (Pr:=[]) (ps:=[]) (f:=Obj.mapFields (·.setIfInBounds 1 (.int t 0))) k y rfl rfl (by rw[e2];rfl) (by rw[e2];exact eS rfl) rfl rfl (by rw[e2];rfl) rfl rfl rfl rfl rfl;refine ci (wpAny_setField e rfl (by simp) ?_);rw[show rawInt (s+q)= .int r 0 by rw[n];rfl];refine ci (wpAny_setField v rfl (by simp) ?_);rw[show rawInt (left-1)= .int t 0 by rw[p];rfl];refine ci (wpAny_mkInt (cj ?_));refine m (λ_=>c.toks) (λ_=> #[]) _ ?_
 exact⟨⟨b.step.chg,b.step.U7,rfl,b.step.gens⟩,b.len,b.post,b.Vi,b.UQ,b.new,b.VK,b.UW,b.Vj,b.US,b.bare⟩
def mulR(b d e:Int):TU:=λa _ _=>fh "int.__mul__" [.int b (tk a 0),.int d (tk a 1)] [] λc=>.int e (c 0)
theorem pL(d:IntMulOk q r)(e:q*r=s):∀a c b,ct P w K (mulR q r s a c b):=λa c b=>by subst e;exact yF d
end
end
section
open PySem.Calls PySem.SeqAt
section
variable {P:WJ} {w:WG} {K:Nat->WA gi}
theorem rr:entryFor table "tuple.__contains__" =some Builtin.«tuple.__contains__»:=entryFor_of_tree (by kernel_rfl)
def Eqv(g f:Wz)(e:Bool):Prop:=∀(d:WJ) (w:WG) (c:WK) (E:Wz->WF->Prop) (b:WF) (a:Bool->WF->Prop),a e b->wpAny (model d w) c (eqBool g f) a E b
theorem Eqv.int{a b:Int}{c d:Nat}{D:Bool}(e:(a==b)=D):Eqv (.int a c) (.int b d) D:=λi w g E j h f=>wpAny_eqBool_int (by rw[e];exact f)
theorem Eqv.bytes{a b:cl}{c d:Nat}{D:Bool}(e:decide (a.toList=b.toList)=D):Eqv (.bytes a c) (.bytes b d) D:=λi w g E j h f=>eqBool_bytes (by rw[e];exact f)
theorem rt{e:Wz->Bool}(j:∀c∈L,Eqv c v (e c))(l:L.any e=D):ct P w K (fh "tuple.__contains__" [.ref a,v] [(a,eE L.toArray)] λ_=>.bool D):=by
 intro d R b r q p h f i;have k:=el f (a,eE L.toArray) (.head _);refine dY (by decide+kernel) rr ?_;refine tuple_containsAt a L.toArray 0 none #[] v e P w d R b ⟨k,λc m=> ?_, ?_⟩
 ·intro n w E g o;exact j c (by simpa using m) n w d.in1 E b g o
 ·have:=i (λ_=>0) (λ_=> #[]) b (gA f h ⟨b.toks,rfl⟩)
  rw[show(L.toArray.any e)=D by rw[<-l];simp];exact this
end
end
section
open PySem.Calls
theorem tF{a:WD WL}(c:a.toList.all (λb=>match b.key with| .str _ _=>true|_=>false)=true):StrKeys a:=λb d=>by
 have:=List.all_eq_true.mp c b (Array.mem_def.mp d);cases e:b.key with
 |str f g=>exact⟨f,g,rfl⟩
 |_=>rw[e]at this;cases this
def dictOf(b:gi):WD WL:=match b.data with
 | .dict a _=>a
 |_=> #[]
variable {a:WG}
theorem Ha{b:Heap}(c:gq (KB a) b):OwnTail b [.type "Exception",.type "BaseException",.type "object"] [.ref 31,.type "Exception",.type "BaseException",.type "object"]:=by have d:b.get? 30=some (Ce a.params):=c 30 _ (by kernel_rfl);have e:b.get? 31=some (Kf a.params):=c 31 _ (by kernel_rfl);refine .own (mA:=λf=>nsFind (dictOf (Ce a.params)) f) e ⟨_,dictOf (Ce a.params),2,d,rfl,tF (by kernel_rfl),λ_=>rfl⟩ (by kernel_rfl) .base
theorem rA{c:WK}{b:WH->WF->Prop}(d:gq (KB a) I.heap)(e:b (.ok (.ret (.ref (I.heap.objs.size+1)))) {I with heap:=(I.heap.push (kD v)).push (pz (.ref 44) I.heap.objs.size)}):codeAny (model PW a) c (.builtin "Exception.__new__" ⟨[.ref 44,v],[]⟩) b I:=by have f:I.heap.get? 44=some (Kg a.params):=d 44 _ (by kernel_rfl);obtain⟨i,h,g,tk,j⟩:=I;exact codeAny_exc_new_subT F.excBase_Exception (Ha d) f e
end
variable {u:WB}
theorem gR(c:WG)(b:Heap)(d:gq (KB c) b):b.NoLimit:=by
 refine⟨_,⟨_,_,_,d 2 (Qk c.params) (by kernel_rfl),rfl, ?_,λ_=>rfl⟩,by kernel_rfl⟩
 intro e a;simp[E]at a;rcases a with rfl|a<;>simp_all
theorem m8(a:WG):lx PW a (KB a):=⟨gR a,λd R e f b c=>rA b c⟩
def OK(u:WB)(S:Spec):Prop:=ct PW (W2 u) (KB (W2 u)) S
def fj(u:WB)(S:Seg):Prop:=gb PW (W2 u) (KB (W2 u)) S
structure fF where
 n:Nat
 UT:uh
 us:Wy TU:=[]
 ps:Wy (uh):=[]
 gs:Wy (uh):=[]
 bs:Wy (Wy f8):=[]
 ss:Wy TG:=[]
 U2:Wy (uh):=[]
 UY:Wy (uh):=[]
 U1:Wy (Wy f8):=[]
def rB(u:WB)(S:Spec)(a:fF)(b:AL)(e:SL):WA (WH×St):=match jA S.code with
 |true=>none
 |false=>(iter (KB (W2 u)) XF ⟨PW,(Pm u)⟩ a.n).c S.dep ⟨none,S.top⟩ S.code (dd S.UM a.UT (dz a.us a.ps a.gs a.bs) (di a.ss a.U2 a.UY a.U1) b e) λd f=>some (d,f)
theorem Hb{S:Spec}(a:fF)(l:uh)(i:uh)(q:Wy f8)(e:AL->SL->AL)(o:AL->SL->SL)
 (x:∀g∈a.us,∀f m h,OK u (g f m h))(w:∀g∈a.ss,∀f m h,fj u (g f m h))
 (d:∀b c,Hq (rB u S a b c) l i q (S.res (e b c) (o b c)) S.UM (e b c) (o b c))
 (t:l.Nodup:=by decide)(r:i.Nodup:=by decide)(v:Hl S.UM:=by intro _ _;rfl)(s:Hg S.UM:=by intro _ _;rfl):OK u S:=
 match j:jA S.code,d with
 |true,d=>by
  have:=d (λ_=>0) (λ_=> #[])
  simp only[rB,j]at this;cases this
 |false,d=>yA (m8 _) a.n a.UT (dz a.us a.ps a.gs a.bs) (di a.ss a.U2 a.UY a.U1) l i q e o (λp k=>x _ (eC p k)) (λp k=>w _ (ed p k)) (λb c=>by have:=d b c;simp only[rB,j]at this;exact this) j t r v s
def CI(u:WB)(S:Spec)(g:Wy Stmt)(d:Env)(a:fF)(c:AL)(f:SL):WA (WH×St):=
 (iter (KB (W2 u)) XF ⟨PW,(Pm u)⟩ a.n).b S.dep ⟨none,S.top⟩ g d (dd S.UM a.UT (dz a.us a.ps a.gs a.bs) (di a.ss a.U2 a.UY a.U1) c f) λe h=>some (e,h)
def dS:Code->Wy Stmt
 | .block a _=>a
 |_=>[]
def gS:Code->Env
 | .block _ a=>a
 |_=>default
def UM(d:Wy (Nat×gi))(c:AL->uk)(b:AL->Wy (Nat×gi)):mw:=⟨pl d,[],λa _=>c a,nn,λa _=>pl (b a),nn,[],nn⟩
def cJ(c:uh)(b:AL)(_:SL):AL:=λa=>b ((c[a]?).getD a)
def g4(b:uh)(_:AL)(c:SL):SL:=λa=>c ((b[a]?).getD a)
def cn{a:Type}:Nat->(Nat->a)->Nat->a
 |0,b=>b
 |n+1,b=>cy (cn n b)
def dT:uh->(AL->AL)->AL->SL->AL
 |[],c,b,_=>c b
 |a::d,c,b,e=>cons (b a) (dT d c b e)
abbrev JR:=Spec×Wy TU×Wy TG
def cq(u:WB):Wy TU->Prop
 |[]=>True
 |f::c=>(∀a d b,OK u (f a d b))/\cq u c
def sr(u:WB):Wy TG->Prop
 |[]=>True
 |f::c=>(∀a d b,fj u (f a d b))/\sr u c
theorem cq.mem{u:WB}:∀{a:Wy TU},cq u a->∀f∈a,∀c h d,OK u (f c h d)
 |f::a,b,e,g=>by
  rcases t6 g with rfl|q
  ·exact b.1
  ·exact cq.mem b.2 e q
theorem sr.mem{u:WB}:∀{a:Wy TG},sr u a->∀f∈a,∀c h d,fj u (f c h d)
 |f::a,b,e,g=>by
  rcases t6 g with rfl|q
  ·exact b.1
  ·exact sr.mem b.2 e q
theorem Re{S:Spec}(c:fF)(f:uh)(e:uh)(h:Wy f8)(d:AL->SL->AL)(g:AL->SL->SL)
 (o:cq u c.us)(n:sr u c.ss)
 (i:∀a b,Hq (rB u S c a b) f e h (S.res (d a b) (g a b)) S.UM (d a b) (g a b))
 (l:f.Nodup:=by decide)(j:e.Nodup:=by decide)(m:Hl S.UM:=by intro _ _;rfl)(k:Hg S.UM:=by intro _ _;rfl):OK u S:=
 Hb c f e h d g o.mem n.mem i l j m k
theorem M3{S:Spec}(a:fF)(g:uh)(e:uh)(j:Wy f8)(d:AL->SL->AL)(h:AL->SL->SL)
 (s:cq u a.us)(r:sr u a.ss)
 (k:∀b c,Hq (CI u S (dS S.code) (gS S.code) a b c) g e j (S.res (d b c) (h b c)) S.UM (d b c) (h b c))
 (l:S.code= .block (dS S.code) (gS S.code):=by rfl)(p:g.Nodup:=by decide)(m:e.Nodup:=by decide)(q:Hl S.UM:=by intro _ _;rfl)(o:Hg S.UM:=by intro _ _;rfl):OK u S:=
 w8 (m8 _) l a.n a.UT (dz a.us a.ps a.gs a.bs) (di a.ss a.U2 a.UY a.U1) g e j d h (λi f=>s.mem _ (eC i f)) (λi f=>r.mem _ (ed i f)) k p m q o
def hM(d:Nat)(c b:Int)(e f a:Nat):gi:=cm #[.ref d,.int c e,.int b f] a
def jd(c b m:Nat)(g f j k:Int)(l h d:Nat)(i:ug)(e:Nat):Spec:=
 ⟨.call (.ref 918) ⟨[.ref c,.int j m],[]⟩,12,none,UM [(c,hM b g f l h d),(b,cm i e)] (λa=>[hM b (g+1) f (a 1) h d,cm i e]) (λ_=>[]),λa _=>uj (.int k (a 0))⟩
def hB(b:ug):Prop:=∀a,a<b.size->∃d c,b[a]?=some (.int d c)
def intAt(b:ug)(a:Nat):Int:=match b[a]? with
 |some (.int c _)=>c
 |_=>0
def dD(c:ug)(a d b:Int):Int:=if a<c.size then(iU (intAt c a.toNat)).fmod b else((d+a*13).fdiv (1+a.fmod 3)).fmod b
abbrev oq:=Seg×Wy TU×Wy TG
def ke(u:WB)(S:Seg)(a:fF)(d:Pos)(b:AL)(e:SL):WA (End×St):=
 eL (iter (KB (W2 u)) XF ⟨PW,(Pm u)⟩ a.n) S.dep S.code d (S.start.getD (XF.den S.code)) S.fs S.fr (dd S.UM a.UT (dz a.us a.ps a.gs a.bs) (di a.ss a.U2 a.UY a.U1) b e) λc f=>some (c,f)
theorem M4{S:Seg}(a:fF)(g:uh)(e:uh)(j:Wy f8)(d:AL->SL->AL)(h:AL->SL->SL)
 (r:cq u a.us)(q:sr u a.ss)
 (k:∀s b c,Hq (ke u S a s b c) g e j (S.res (d b c) (h b c)) S.UM (d b c) (h b c))
 (o:g.Nodup:=by decide)(l:e.Nodup:=by decide)(p:Hl S.UM:=by intro _ _;rfl)(m:Hg S.UM:=by intro _ _;rfl):fj u S:=
 Cu (m8 _) a.n a.UT (dz a.us a.ps a.gs a.bs) (di a.ss a.U2 a.UY a.U1) g e j d h (λi f=>r.mem _ (eC i f)) (λi f=>q.mem _ (ed i f)) _ rfl k o l p m
def vk:Wy g8->Wy WM
 |[]=>[]
 | .f a _::_=>a
 |_::b=>vk b
def pM(a:WA (End×St)):Wy WM:=match a with
 |some (_,st)=>vk st.lg
 |none=>[]
def cT(g:WA (End×St))(h:Wz):End:=match g with
 |some (.susp _ c e d a f b,_)=>.susp h c e d a f b
 |_=>.ret (.ok .next)
def oU(c:Code)(a:Nat):Seg:=⟨c,none,[],a,0,⟨[],[],nn,nn,nn,nn,[],nn⟩,λ_ _=>.ret (.ok .next)⟩
theorem gb.alt{c:WJ}{d:WG}{b:Nat->WA gi}{S a:Seg}(x:gb c d b S)(y:a.code=S.code)(G:a.start=S.start)(D:a.fs=S.fs)(C:a.fr=S.fr)(z:a.dep=S.dep)(k:a.UM.pre=S.UM.pre)(l:a.UM.UR=S.UM.UR)(A:a.UM.UX=S.UM.UX)
 (t:∀f h,∃g i,S.res f h=a.res g i/\S.UM.post f h=a.UM.post g i/\S.UM.UQ f h=a.UM.UQ g i/\S.UM.new f h=a.UM.new g i/\S.UM.UW f h=a.UM.UW g i/\S.UM.US f h=a.UM.US g i):gb c d b a:=by
 intro q R H p w n s r j o;rw[y,G,D];rw[C]at n j o;refine x q R H (by rw[z]at p;exact p) w n s r ⟨by rw[<-k];exact j.pre,by rw[<-k];exact j.nd,by rw[<-l];exact j.UR,by rw[<-l];exact j.U6,by rw[<-A];exact j.UX⟩ λf h s1 e=> ?_
 obtain⟨g,i,e0,e1,e2,e3,m,v⟩:=t f h;rw[e0];exact o g i s1 ⟨by rw[k,l];exact e.step,by rw[<-e1,k];exact e.len,by rw[<-e1,k];exact e.post,by rw[<-e2,l];exact e.Vi,by rw[<-e2,l];exact e.UQ,by rw[<-e3];exact e.new,by rw[<-e3];exact e.VK,by rw[<-m];exact e.UW,by rw[<-m];exact e.Vj,by rw[<-v];exact e.US,e.bare⟩
def mm(b:AL)(c d:Nat):AL:=λa=>if a=c then d else b a
theorem h5:∀(a:Wy cl) (F d:AL),(∀c,c<a.length->F c=d c)->d3 a F=d3 a d
 |[],_,_,_=>rfl
 |b::a,F,d,e=>by
  rw[d3,d3,e 0 (by simp),h5 a (cy F) (cy d) λc f=>e (c+1) (by simpa using f)]
theorem m9:∀(a c:Wy cl) (F:AL),d3 (a++c) F=d3 a F++d3 c (λd=>F (d+a.length))
 |[],c,F=>by simp[d3]
 |b::a,c,F=>by
  rw[List.cons_append,d3,d3,m9 a c (cy F),List.cons_append];congr 2
theorem yQ(a:Wy cl)(b:AL)(d:cl)(c:Nat):(⟨d3 a b⟩:ug).push (.bytes d c)=⟨d3 (a++[d]) (mm b a.length c)⟩:=by
 apply Array.ext';rw[m9];have e:d3 a (mm b a.length c)=d3 a b:=h5 _ _ _ λg f=>by unfold mm;rw[if_neg (by omega)]
 rw[e];simp[d3,mm]
def rC(b:Wy cl)(c:AL)(d:cl):TU:=λa e _=>FR "list.append" [.ref (ad a 0),.bytes d (tk a 1)] [(ad a 0,cm ⟨d3 b c⟩ (eJ e 0))] [cm ⟨d3 (b++[d]) (mm c b.length (tk a 1))⟩ (eJ e 0+1)] .none
theorem iz(e:A.length<=1000000):∀a b c,OK u (rC A y k a b c):=λa b c=>by
 have:=lC (P:=PW) (w:=W2 u) (K:=KB (W2 u)) (l:=ad a 0) (as:=⟨d3 A y⟩) (ep:=eJ b 0) (v:= .bytes k (tk a 1)) (by show(d3 A y).length<=_;rw[d8];exact e);refine this.alt rfl rfl rfl rfl rfl rfl λd f=>⟨d,f,rfl, ?_,rfl,rfl,rfl,rfl⟩
 show[cm _ _]=[cm _ _];rw[yQ]
section
open PySem.Calls
def Wv:Nat->Nat->uh->uh
 |0,_,a=>a
 |k+1,b,a=>Wv k b (a.getD b 0::a)
def Qo:Nat->Nat->uh->uh
 |0,_,b=>b
 |f+1,a,b=>match Nat.ble a 1,Nat.ble (a % 16) 12,a % 16 with
  |true,_,_=>b
  |false,true,c=>Qo f (a/16) (c::b)
  |false,false,13=>Qo f (a/4096) (a/16 % 256::b)
  |false,false,14=>Qo f (a/65536) (a/16 % 4096::b)
  |false,false,_=>Qo f (a/65536) (Wv (a/4096 % 16+4) (a/16 % 256) b)
def dc(a:Nat):uh:=Qo 3000 a []
variable {Y:Wy TU}
theorem oT{S:Spec}(i:Nat)(j:Wy (uh))(e:uh)(d:AL->SL->AL)(p:cq u Y)(G:Wy (uh):=[])(J:Wy (Wy f8):=[])(I:uh:=[])(R:Wy f8:=[])(Z:AL->SL->SL:=g4 [])(c:Wy TG:=[])(f g:Wy (uh):=[])(h:Wy (Wy f8):=[])(k:sr u c:=by trivial)
 (H:∀a b,Hq (rB u S ⟨2000,dc i,Y,j,G,J,c,f,g,h⟩ a b) e I R (S.res (d a b) (Z a b)) S.UM (d a b) (Z a b):=by intro a q;show _=_;first|(obtain⟨r,b1,b2⟩:=u;cases b1<;>kernel_rfl)|(cases b1<;>kernel_rfl))
 (n:e.Nodup:=by decide)(l:I.Nodup:=by decide)(o:Hl S.UM:=by intro _ _;rfl)(m:Hg S.UM:=by intro _ _;rfl):OK u S:=
 Re ⟨2000,dc i,Y,j,G,J,c,f,g,h⟩ e I R d Z p k H n l o m
theorem bT{S:Spec}(l:Nat)(m:Wy (uh))(g:uh)(f:AL->SL->AL)(v:cq u Y)(G:Wy (uh):=[])(J:Wy (Wy f8):=[])(c:uh:=[])(j:Wy f8:=[])(e:AL->SL->SL:=g4 [])(d:Wy TG:=[])(h i:Wy (uh):=[])(k:Wy (Wy f8):=[])(o:sr u d:=by trivial)
 (n:∀a b,Hq (CI u S (dS S.code) (gS S.code) ⟨2000,dc l,Y,m,G,J,d,h,i,k⟩ a b) g c j (S.res (f a b) (e a b)) S.UM (f a b) (e a b):=by intro a w;show _=_;first|(obtain⟨x,b1,b2⟩:=u;cases b1<;>kernel_rfl)|(cases b1<;>kernel_rfl))
 (p:S.code= .block (dS S.code) (gS S.code):=by rfl)(s:g.Nodup:=by decide)(q:c.Nodup:=by decide)(t:Hl S.UM:=by intro _ _;rfl)(r:Hg S.UM:=by intro _ _;rfl):OK u S:=
 M3 ⟨2000,dc l,Y,m,G,J,d,h,i,k⟩ g c j f e v o n p s q t r
theorem sT{S:Seg}(i:Nat)(k:Wy (uh))(f:uh)(e:AL->SL->AL)(q:cq u Y)(g:Wy (uh):=[])(h:Wy (Wy f8):=[])(c:uh:=[])(R:Wy f8:=[])(d:AL->SL->SL:=g4 [])(O:Wy TG:=[])(M N:Wy (uh):=[])(V:Wy (Wy f8):=[])(Q:sr u O:=by trivial)
 (l:∀j a b,Hq (ke u S ⟨2000,dc i,Y,k,g,h,O,M,N,V⟩ j a b) f c R (S.res (e a b) (d a b)) S.UM (e a b) (d a b):=by intro j a r;show _=_;first|(obtain⟨s,b1,b2⟩:=u;cases b1<;>kernel_rfl)|(cases b1<;>kernel_rfl))
 (o:f.Nodup:=by decide)(m:c.Nodup:=by decide)(p:Hl S.UM:=by intro _ _;rfl)(n:Hg S.UM:=by intro _ _;rfl):fj u S:=
 M4 ⟨2000,dc i,Y,k,g,h,O,M,N,V⟩ f c R e d q Q l o m p n
end
variable {i:Nat}
section
theorem M5(l:0<=q)(m:q<H.size)(o:H.size<=2^24)(p:H[q.toNat]?=some (.int t i))(n:r≠0):
  OK u (jd a e h q s r ((iU t).fmod r) f g c H d):=by refine oT 0x1000111181bf111011130df221710f0120120012220121213330132010110121012 [[2],[],[2],[],[]] [1,0] (cJ [28,6]) ?_ (Y:=[MZ H,JQ q H.size true,pI H q (.int t i),MY t,Cz (iU t) r]);exact⟨λb k j=>ja o,λb k j=>i9 (decide_eq_true m),λb k j=>dZ l (by omega) p,λb k j=>yG,λb k j=>pH n,cg⟩
theorem M6(n:0<=q)(k:¬q<H.size)(m:H.size<=2^24)(l:r≠0):
  OK u (jd a e h q s r (((s+q*13).fdiv (1+q.fmod 3)).fmod r) f g c H d):=by
 have o:0<=q.fmod 3/\q.fmod 3<3:=by
  rw[Int.fmod_eq_emod_of_nonneg _ (by decide)];exact⟨Int.emod_nonneg _ (by decide),Int.emod_lt_of_pos _ (by decide)⟩
 refine oT 0x1000111181bf22ff12415f10050ef01206f22012210f01302f10121012 [[2],[],[],[],[]] [1,0] (cJ [72,6]) ?_ (Y:=[MZ H,JQ q H.size false,Rb q 13,Rc (s+q*13) (1+q.fmod 3),Cz ((s+q*13).fdiv (1+q.fmod 3)) r]);exact⟨λb j i=>ja m,λb j i=>i9 (decide_eq_false k),λb j i=>yF (.of_right (by decide+kernel)),λb j i=>rj (by omega) (by omega),λb j i=>pH l,cg⟩
variable {place fb n:Int}
theorem pN{sc t3:Nat}{t1 t2 ep:Nat}{Vc:Nat}(c:0<=place)(e:H.size<=2^24)(g:hB H)(d:n≠0):
  OK u (jd a sc t3 place fb n (dD H place fb n) t1 t2 ep H Vc):=by
 by_cases b:place<H.size
 ·obtain⟨h,i,f⟩:=g place.toNat (by omega);have:dD H place fb n=(iU h).fmod n:=by
   unfold dD intAt;rw[if_pos b,f]
  rw[this];exact M5 c b e f d
 ·have:dD H place fb n=((fb+place*13).fdiv (1+place.fmod 3)).fmod n:=by
   unfold dD;rw[if_neg b]
  rw[this];exact M6 c b e d
theorem l6{vs:ug}(a:0<n):0<=dD vs place fb n/\dD vs place fb n<n:=by unfold dD;split<;>(rw[Int.fmod_eq_emod_of_nonneg _ (by omega)];exact⟨Int.emod_nonneg _ (by omega),Int.emod_lt_of_pos _ a⟩)
end
variable {T:Fin 16}
section
abbrev U:=TU
def M7(b:uk)(a:Nat):ug:=match(b[a]?.getD default).data with
 | .seq c _=>c
 |_=> #[]
def lk(c:uk)(a b:Nat):Nat:=df (((M7 c a)[b]?).getD .none)
def JS(d:uk)(b c:Nat):Nat:=match((M7 d b)[c]?).getD .none with
 | .ref a=>a
 |_=>0
def dM(a:Fin 16):UInt8:=if a.val<10 then UInt8.ofNat (48+a.val)else UInt8.ofNat (87+a.val)
def rD(a:Fin 16):Int:=((dM a).toNat:Nat)
def l7(a b:Fin 16)(d e c:Nat):gi:=cm #[.int (rD a) d,.int (rD b) e] c
def M8(h a f:Nat)(d e:Fin 16)(i j g:Nat)(b c:UInt8):Spec:=
 ⟨um "bytes.__new__.loop" [.type "bytes",.ref a,.ref f],12,none,UM [(a,dp h a 2),(h,l7 d e i j g),(f,h4 #[b,c])] (λ_=>[dL "list_iterator" [.none,.int 2 0],l7 d e i j g,h4 #[b,c]]) (λ_=>[]),λk _=>uj (.bytes #[b,c] (k 0))⟩
variable {h:UInt8} {b:Fin 16}
theorem Hc{i:UInt8}:OK u (M8 e g f b T d c a h i):=
 oT 0x1110111112110015 [] [2,1,0] (cJ [2]) trivial (Y:=[]) (H:=(λj k=>by kernel_rfl))
theorem vl{a:Fin 16->Prop}(d:a 0)(e:a 1)(l:a 2)(m:a 3)(o:a 4)(p:a 5)(q:a 6)(r:a 7)(s:a 8)(t:a 9)(f:a 10)(g:a 11)(h:a 12)(i:a 13)(j:a 14)(k:a 15):∀b,a b:=by
 rintro⟨b,v⟩
 match b,v with
 |0,_=>exact d|1,_=>exact e|2,_=>exact l|3,_=>exact m|4,_=>exact o|5,_=>exact p|6,_=>exact q|7,_=>exact r
 |8,_=>exact s|9,_=>exact t|10,_=>exact f|11,_=>exact g|12,_=>exact h|13,_=>exact i|14,_=>exact j|15,_=>exact k
 |n+16,c=>exact absurd c (by omega)
def M9(g b e:Nat)(d a:Fin 16)(h i f:Nat)(c:UInt8):Spec:=
 ⟨um "bytes.__new__.loop" [.type "bytes",.ref b,.ref e],24,none,UM [(b,dp g b 1),(g,l7 d a h i f),(e,h4 #[c])] (λ_=>[dL "list_iterator" [.none,.int 2 0],l7 d a h i f,h4 #[c,dM a]]) (λ_=>[]),λj _=>uj (.bytes #[c,dM a] (j 0))⟩
def q9:Nat:=0x1110111112113332
theorem Hd(i:Fin 16):OK u (M9 e g f b i d c a h):=by
 refine oT q9 [[0,1,2]] [2,1,0] (cJ [0]) ⟨λj l k=>Hc,cg⟩ (Y:=[λj l k=>M8 e g f b i d c a h (dM i)]) (H:= ?_)
 revert i;refine vl ?_ ?_ ?_ ?_ ?_ ?_ ?_ ?_ ?_ ?_ ?_ ?_ ?_ ?_ ?_ ?_<;>(intro m n;kernel_rfl)
def Na(f c d:Nat)(a b:Fin 16)(g h e:Nat):Spec:=
 ⟨um "bytes.__new__.loop" [.type "bytes",.ref c,.ref d],36,none,UM [(c,dp f c 0),(f,l7 a b g h e),(d,h4 #[])] (λ_=>[dL "list_iterator" [.none,.int 2 0],l7 a b g h e,h4 #[dM a,dM b]]) (λ_=>[]),λi _=>uj (.bytes #[dM a,dM b] (i 0))⟩
theorem He(b:Fin 16):OK u (Na e g f b T d c a):=by
 refine oT q9 [[0,1,2]] [2,1,0] (cJ [0]) ⟨λh j i=>Hd T,cg⟩ (Y:=[λh j i=>M9 e g f b T d c a (dM b)]) (H:= ?_)
 revert b;refine vl ?_ ?_ ?_ ?_ ?_ ?_ ?_ ?_ ?_ ?_ ?_ ?_ ?_ ?_ ?_ ?_<;>(intro k l;kernel_rfl)
def SE(d:Nat)(a b:Fin 16)(e f c:Nat):Spec:=
 ⟨um "bytes.__new__" [.type "bytes",.ref d],60,none,UM [(d,l7 a b e f c)] (λ_=>[l7 a b e f c]) (λ_=>[]),λg _=>uj (.bytes #[dM a,dM b] (g 0))⟩
def Q0:Nat:=0x1300f10111012202
theorem Nb:OK u (SE e b T d c a):=by refine oT Q0 [[1,2,0]] [0] (cJ [2]) ⟨λf h g=>He b,cg⟩ (Y:=[λf h g=>Na e (ad f 1) (ad f 2) b T d c a])
def eF(a b:Fin 16):cl:=Builtin.Bytes.repeated #[dM a,dM b] 20
def signs:cl:= #[48,49,50,51,52,53,54,55,56,57,97,98,99,100,101,102]
def yR(a:Fin 16):U:=λb _ _=>fh "bytes.__getitem__" [.bytes signs (tk b 0),.int (a.val:Nat) (tk b 1)] [] λc=>.int ((dM a).toNat:Nat) (c 0)
theorem vm(a:Fin 16):∀b d c,OK u (yR a b d c):=λb d c=>
 iu (by omega) (by omega) (by revert a;decide)
def yS(a b:Fin 16):U:=λc _ _=>fh "bytes.__mul__" [.bytes #[dM a,dM b] (tk c 0),.int (20:Nat) (tk c 1)] [] λd=>.bytes (eF a b) (d 0)
theorem yT(d e:Fin 16):∀a c b,OK u (yS d e a c b):=λa c b=>
 CD rfl (by decide) (by simp) (by simp) (by unfold eF Builtin.Bytes.repeated;simp[List.replicate])
def vn(c b:Nat)(g f:Int)(j k:Fin 16)(l h d:Nat)(i:ug)(e:Nat):Spec:=
 ⟨ul 930 [.ref c],70,none,UM [(c,hM b g f l h d),(b,cm i e)] (λa=>[hM b (g+1+1) f (a 1) h d,cm i e]) (λ_=>[]),λa _=>uj (.bytes (eF j k) (a 0))⟩
theorem na{b:Nat}{e:Fin 16}(m:0<=r)(k:H.size<=2^24)(l:hB H)(o:dD H r q 16=(T.val:Nat))(p:dD H (r+1) q 16=(e.val:Nat)):
  OK u (vn b g r q T e d c a H f):=by
 refine oT 0x10060ff105f1011130bf206f208f102f1012 [[1,2],[1,2],[],[],[0],[]] [1,0] (cJ [92,14]) ⟨λh i j=> ?_,λh i j=> ?_,vm T,vm e,λh i j=>Nb,yT T e,cg⟩ (Y:=[λh i j=>jd b g (tk h 1) r q 16 (T.val:Nat) d c a H f,λh i j=>jd b g (tk h 1) (r+1) q 16 (e.val:Nat) (lk i 0 1) c a H f,yR T,yR e,λh i j=>SE (ad h 1) T e (lk i 0 0) (lk i 0 1) (eJ i 0),yS T e])
 ·have:=pN (u:=u) (a:=b) (sc:=g) (t3:=tk h 1) (t1:=d) (t2:=c) (ep:=a) (Vc:=f) m k l (n:=16) (fb:=q) (by decide);rw[o]at this;exact this
 ·have:=pN (u:=u) (a:=b) (sc:=g) (t3:=tk h 1) (t1:=lk i 0 1) (t2:=c) (ep:=a) (Vc:=f) (place:=r+1) (by omega) k l (n:=16) (fb:=q) (by decide);rw[p]at this;exact this
end
def oh:Wy Int->(Nat->Nat)->ui
 |[],_=>[]
 |b::c,a=>.int b (a 0)::oh c (cy a)
theorem vo:∀(a:Wy Int) (c:Nat->Nat) (d:Nat),(oh a c)[d]?=(a[d]?).map λb=>.int b (c d)
 |[],_,_=>by simp[oh]
 |b::a,c,0=>by simp[oh]
 |b::a,c,d+1=>by
  simp only[oh,List.getElem?_cons_succ,vo a (cy c) d];rfl
def iB(c:uk)(b:Nat):Nat->Nat:=λa=>lk c b a
def vp(b:Wy cl)(c:Nat):U:=λa d f=>fh "list.__getitem__" [.ref (ad a 0),.int (c:Nat) (tk a 1)] [(ad a 0,cm ⟨d3 b (iB d 0)⟩ (eJ d 0))] λe=>.bytes (b.getD c #[]) (e 0)
def FU(b:Wy Int)(c:Nat):U:=λa d f=>fh "list.__getitem__" [.ref (ad a 0),.int (c:Nat) (tk a 1)] [(ad a 0,cm ⟨oh b (iB d 0)⟩ (eJ d 0))] λe=>.int (b.getD c 0) (e 0)
theorem pO{c:WJ}{g:WG}{b:Nat->WA gi}{d:String}{e:Wy (Nat×gi)}{a f:(Nat->Nat)->Wz}(p:ct c g b (fh d L e a))(k:∀i,∃j,a i=f j):ct c g b (fh d L e f):=λl R t r o n m s q=>p l R t r o n m s λi v s1 h=>by
 obtain⟨j,k⟩:=k i;show R (.ok (.ret (a i))) s1;rw[k];exact q j v s1 ⟨h.step,h.len,h.post,h.Vi,h.UQ,h.new,h.VK,h.UW,h.Vj,h.US,h.bare⟩
theorem he{b:Wy cl}(f:a<b.length)(h:b.length<2^24):∀d c e,OK u (vp b a d c e):=λd c e=>by
 refine pO (dZ (v:= .bytes (b.getD a #[]) (iB c 0 a)) (by omega) (by omega) ?_) λg=>⟨λ_=>iB c 0 a,rfl⟩
 rw[Int.toNat_natCast];show(d3 b (iB c 0)).toArray[a]?=_;rw[List.getElem?_toArray,kK,List.getElem?_eq_getElem f,List.getD_eq_getElem?_getD,List.getElem?_eq_getElem f];rfl
theorem yU{b:Wy Int}(f:a<b.length)(h:b.length<2^24):∀d c e,OK u (FU b a d c e):=λd c e=>by
 refine pO (dZ (v:= .int (b.getD a 0) (iB c 0 a)) (by omega) (by omega) ?_) λg=>⟨λ_=>iB c 0 a,rfl⟩
 rw[Int.toNat_natCast];show(oh b (iB c 0)).toArray[a]?=_;rw[List.getElem?_toArray,vo,List.getElem?_eq_getElem f,List.getD_eq_getElem?_getD,List.getElem?_eq_getElem f];rfl
def tG:Wy cl:=[#[65,32,60,97,64,98,62],#[74,111,32,68,111,101,32,60,62],#[195,169,32,120,32,60,120,32,121,62]]
def dt:Wy Int:=[0,1700000000,9223372036854775807,5]
def FV:Wy (cl×Int×Bool):=[(#[43,48,48,48,48],0,false),(#[45,48,48,48,48],0,true),(#[43,48,49,51,48],5400,false),(#[45,48,55,51,48],-27000,false),(#[43,49,52,48,48],50400,false),(#[45,45,55,48,48],25200,true)]
def cL(a:Fin 6):cl×Int×Bool:=FV.getD a.val (#[],0,false)
def gU(a:Fin 6)(b c:Nat):gi:=eE #[.bytes (cL a).1 b,.int (cL a).2.1 c,.bool (cL a).2.2]
def dJ(a:Fin 3)(b:Fin 4)(e:Nat)(c d:Nat):gi:=eE #[.bytes (tG.getD a.val #[]) c,.int (dt.getD b.val 0) d,.ref e]
def vq(c b:Nat)(g f:Int)(j:Fin 3)(k:Fin 4)(m:Fin 6)(l h d:Nat)(i:ug)(e:Nat):Spec:=
 ⟨ul 937 [.ref c],30,none,UM [(c,hM b g f l h d),(b,cm i e)] (λa=>[hM b (g+1+1+1) f (a 2) h d,cm i e]) (λa=>[(a 0,dJ j k (a 1) (a 3) (a 4)),(a 1,gU m (a 5) (a 6))]),λa _=>uj (.ref (a 0))⟩
theorem kN{a:Int}(j:0<=q)(l:H.size<=2^24)(m:hB H)(k:a≠0)(b:dD H q r a=s):OK u (jd c f i q r a s h g d H e):=by have:=pN (u:=u) (a:=c) (sc:=f) (t3:=i) (t1:=h) (t2:=g) (ep:=d) (Vc:=e) j l m (n:=a) (fb:=r) k;rw[b]at this;exact this
def q3:Nat:=0x113cf10072af370ff33004423f2014444306f107f01100000c304f111010
theorem nb{a:Fin 3}{b:Fin 4}(m:Fin 6)(s:0<=q)(n:H.size<=2^24)(o:hB H)(t:dD H q r 3=(a.val:Nat))(v:dD H (q+1) r 4=(b.val:Nat))(p:dD H (q+1+1) r 6=(m.val:Nat)):
  OK u (vq c f q r a b m h g d H e):=by
 have i:cq u [λj k l=>jd c f (tk j 1) q r 3 (a.val:Nat) h g d H e,vp tG a.val,λj k l=>jd c f (tk j 1) (q+1) r 4 (b.val:Nat) (lk k 0 1) g d H e,FU dt b.val,λj k l=>jd c f (tk j 1) (q+1+1) r 6 (m.val:Nat) (lk k 0 1) g d H e]:=⟨λj k l=>kN s n o (by decide) t,he a.isLt (by decide),λj k l=>kN (by omega) n o (by decide) v,yU b.isLt (by decide),λj k l=>kN (by omega) n o (by decide) p,cg⟩
 clear p;revert i
 match m with
 |0=>exact λi=>oT q3 [[3,4],[0],[4,5],[0],[12,13]] [1,0,14,7] (cJ [435,115,451,9,43,83,99]) i
 |1=>exact λi=>oT q3 [[3,4],[0],[4,5],[0],[12,13]] [1,0,14,8] (cJ [435,163,451,9,43,131,147]) i
 |2=>exact λi=>oT q3 [[3,4],[0],[4,5],[0],[12,13]] [1,0,14,9] (cJ [435,211,451,9,43,179,195]) i
 |3=>exact λi=>oT q3 [[3,4],[0],[4,5],[0],[12,13]] [1,0,14,10] (cJ [435,275,451,9,43,227,259]) i
 |4=>exact λi=>oT q3 [[3,4],[0],[4,5],[0],[12,13]] [1,0,14,11] (cJ [435,323,451,9,43,291,307]) i
 |5=>exact λi=>oT q3 [[3,4],[0],[4,5],[0],[12,13]] [1,0,14,12] (cJ [435,371,451,9,43,339,355]) i
def je(a c:cl):U:=λb _ _=>fh "bytes.__add__" [.bytes a (tk b 0),.bytes c (tk b 1)] [] λd=>.bytes (a++c) (d 0)
theorem eG(d:k.size+l.size<=16777216):∀a c b,OK u (je k l a c b):=λa c b=>CE rfl (by rw[Array.size_append];exact d)
def xg(a:Fin 4):cl:=match a with
 |0=> #[48]
 |1=> #[49,55,48,48,48,48,48,48,48,48]
 |2=> #[57,50,50,51,51,55,50,48,51,54,56,53,52,55,55,53,56,48,55]
 |3=> #[53]
def dv(a:Fin 3):cl:=tG.getD a.val #[]
def e1(a:Fin 3):cl:=dv a++ #[32]
def e2(a:Fin 3)(b:Fin 4):cl:=e1 a++xg b
def e3(a:Fin 3)(b:Fin 4):cl:=e2 a b++ #[32]
def dk(a:Fin 3)(b:Fin 4)(c:Fin 6):cl:=e3 a b++(cL c).1
def Hf(e d:Nat)(a:Fin 3)(b:Fin 4)(c:Fin 6)(f g h i:Nat):Spec:=
 ⟨ul 944 [.ref e],30,none,UM [(e,dJ a b d f g),(d,gU c h i)] (λ_=>[dJ a b d f g,gU c h i]) (λ_=>[]),λj _=>uj (.bytes (dk a b c) (j 0))⟩
def q5:Nat:=0x10001133f22201210f09f809f1011111311001200f4012004d02f1012012466601616012
theorem xh{a:Fin 3}{b:Fin 4}{c:Fin 6}:OK u (Hf d i a b c e f g h):=by
 have j:cq u [je (dv a) #[32],je (e1 a) (xg b),je (e2 a b) #[32],je (e3 a b) (cL c).1]:=⟨eG (by revert a;decide),eG (by revert a b;decide),eG (by revert a b;decide),eG (by revert a b c;decide),cg⟩;revert j
 match b with
 |0=>exact λj=>oT q5 [[],[],[],[]] [1,0] (cJ [32]) j
 |1=>exact λj=>oT q5 [[],[],[],[]] [1,0] (cJ [32]) j
 |2=>exact λj=>oT q5 [[],[],[],[]] [1,0] (cJ [32]) j
 |3=>exact λj=>oT q5 [[],[],[],[]] [1,0] (cJ [32]) j
section
def Nc:PySem.Expr->Nat->PySem.Expr
 | .BinOp c _ _ _,0=>c
 | .BinOp _ _ d _,_=>d
 | .Call g _ _ _,0=>g
 | .Call _ a _ _,b+1=>(a[b]?).getD default
 | .List a _,b=>(a[b]?).getD default
 | .Tuple a _ _,b=>(a[b]?).getD default
 | .Attribute e _ _,_=>e
 | .Subscript e _ _,0=>e
 | .Subscript _ e _,_=>e
 | .IfExp c _ _ _,0=>c
 | .IfExp _ d _ _,1=>d
 | .IfExp _ _ f _,_=>f
 | .Compare c _ _ _,0=>c
 | .Compare _ _ a _,b+1=>(a[b]?).getD default
 | .BoolOp _ a _,b=>(a[b]?).getD default
 | .UnaryOp _ e _,_=>e
 |e,_=>e
def Nd:PySem.Expr->uh->PySem.Expr
 |e,[]=>e
 |e,a::b=>Nd (Nc e a) b
def T5:Stmt->PySem.Expr
 | .Return (some a) _=>a
 | .Assign _ a _=>a
 | .Expr a _=>a
 | .If a _ _ _=>a
 | .For _ a _ _ _=>a
 | .While a _ _ _=>a
 |_=>default
def tH(a b:uh):PySem.Expr:=Nd (T5 (mj PW.main.body a)) b
def Qp:PySem.Expr->Scope
 | .ListComp _ _ a _=>a
 | .GeneratorExp _ _ a _=>a
 |_=>default
def vr(a:uh):Scope:=match mj PW.main.body a with
 | .FunctionDef _ _ _ _ _ _ b .. =>b
 |_=>default
def xi(e:uh)(f:Str)(d c a:Nat)(b:Wy (Str×Addr)):Env:=⟨vr e,a,3,b,f,some d,.ref c,some a,0⟩
def yV(c:PySem.Expr)(e:Str)(b d a:Nat):Env:=⟨Qp c,d,3,[],e,none,.ref b,some a,0⟩
def lq(a:String):Str:=Str.ofString a
def dx(b:WC)(a:String)(c:Nat)(d:Wz):WL:=⟨PyData.keyHash b (lq a),.str (lq a) c,d⟩
def fk(b:Wy WL)(a:Nat):gi:=⟨.type "dict",none,.dict b.toArray a,#[]⟩
def eH(a:dh):cl:=((a.1++ #[32])++jc a.2 #[10] #[10,32])++ #[10]
def vt:PySem.Expr:=tH [64,0] [0,0,1]
def vu(c b d a:Nat):Code:= .compLoop vt 0 (.ref c) (.ref b) (yV vt (lq "_law_rows.<locals>.") 948 d a)
def kO(a:WC)(c:WA (Wz×Wz))(d e:Nat):gi:=match c with
 |none=>fk [] 0
 |some (b,f)=>fk [dx a "head" d b,dx a "value" e f] 2
def jE(a:ug)(c:Wy dh)(b:AL):ug:=a++(⟨d3 (c.map eH) b⟩:ug)
def kP(b:WC)(e:WA (Wz×Wz))(f g:Nat)(d:Wy dh)(a:AL):gi:=match d.getLast? with
 |none=>kO b e f g
 |some c=>kO b (some (.bytes c.1 (a 0),.bytes c.2 (a 1))) (a 2) (a 3)
def mD(c:WC)(a b d i h f g:Nat)(m e:ug)(j:WA (Wz×Wz))(k l:Nat):Wy (Nat×gi):=[(a,dp b a h),(b,cm m f),(d,cm e g),(i,kO c j k l)]
def rE(d:WC)(f:Nat)(c e:ug)(b:Wy dh)(g:WA (Wz×Wz))(h i:Nat)(a:AL):uk:=[dL "list_iterator" [.none,.int c.size 0],cm c f,cm (jE e b (cn 5 a)) (a 4),kP d g h i b a]
def tI(c:WC)(g p d h b o f n:Nat)(a e:ug)(l q:Wy dh)(i:WA (Wz×Wz))(j k:Nat):Spec:=
 ⟨vu g d h b,40,some b,⟨pl (mD c g p d h o f n a e i j k),[],λm _=>rE c f a e q i j k m,nn,nn,nn,[⟨a,l⟩],nn⟩,λ_ _=>.ok .next⟩
def FW(b d c:cl):U:=λa g f=>fh "bytes.replace" [.bytes b (tk a 0),.bytes d (tk a 1),.bytes c (tk a 2)] [] λe=>.bytes (jc b d c) (e 0)
def arg(c:Code)(a:Nat):Wz:=(lW c)[a]?.getD .none
def CJ(b:ug):U:=λa c d=>M2 (ad a 0) b (eJ c 0) (arg a 1)
def dN(d:gi)(c:Nat):Nat:=match d.data with
 | .dict b _=>(match b.toList[c]? with|some a=>df a.key|none=>0)
 |_=>0
def CL(d:gi)(c:Nat):Nat:=match d.data with
 | .dict b _=>(match b.toList[c]? with|some a=>df a.val|none=>0)
 |_=>0
def l8(c:uk)(b a:Nat):Wz:=match(c[b]?.getD default).data with
 | .fields d=>(d.toList[a]?).getD .none
 |_=>.none
def t5(d:WC)(j k f l c i h:Nat)(n g:ug)(e m:Wy dh)(b:dh):U:=λo a p=>
 tI d j k f l c (i+1) h (eJ a 2) n (g.push (.bytes (eH b) (df (l8 a 4 1)))) e m (some (.bytes b.1 (CL (a[3]?.getD default) 0),.bytes b.2 (CL (a[3]?.getD default) 1))) (dN (a[3]?.getD default) 0) (dN (a[3]?.getD default) 1)
def Hh(e:WC)(i q f j d n h m:Nat)(c g:ug)(k r:Wy dh)(l:Nat)(b:dh)(s:WA (Wz×Wz))(t v:Nat)(o p:AL->Nat):Spec:=
 ⟨vu i f j d,40,some d,⟨pl (mD e i q f j n h m c g s t v),[],λa _=>rE e h c (g.push (.bytes (eH b) (a 0))) r (some (.bytes b.1 (a 1),.bytes b.2 (a 2))) (o a) (p a) (cn 5 a),nn,nn,nn,[⟨c,k⟩,⟨#[.ref l],[b]⟩],nn⟩,λ_ _=>.ok .next⟩
def Hi(i:WC)(e f l m h d c:Nat)(g b:ug)(j n:Wy dh)(k:Nat)(a:dh):Wy U:=[λo q p=>xf e f d g c (.ref k),je a.1 #[32],FW a.2 #[10] #[10,32],je (a.1++ #[32]) (jc a.2 #[10] #[10,32]),je ((a.1++ #[32])++jc a.2 #[10] #[10,32]) #[10],CJ b,t5 i e f l m h d c g b j n a]
def Hj(c:WC)(h n d i b f g:Nat)(a e:ug)(m:Wy dh)(j:WA (Wz×Wz))(k l:Nat):Spec:=
 ⟨vu h d i b,40,some b,⟨pl (mD c h n d i a.size f g a e j k l),[],λo _=>[dL "list_iterator" [.none,.int a.size 0],cm a f,cm e g,kO c j k l],nn,nn,nn,[⟨a,m⟩],nn⟩,λ_ _=>.ok .next⟩
def kg(a:dh):Prop:=(eH a).size<=1000000/\a.2.size+(Builtin.Bytes.occurrences a.2 #[10] 0 a.2.size).length*2<=1000000
theorem yW{a:cl}(e:k.isEmpty=false)(f:a.size+(Builtin.Bytes.occurrences a k 0 a.size).length*l.size<=16777216)(g:(jc a k l).size<=16777216):∀b d c,OK u (FW a k l b d c):=λb d c=>CG e rfl f g
theorem gu(a:ug)(c:Wz)(b:ui):(a.push c)++(⟨b⟩:ug)=a++(⟨c::b⟩:ug):=by apply Array.ext';simp
def pP(a:WA (Wz×Wz)):Prop:=a=none\/∃b c d e,a=some (.bytes b c,.bytes d e)
variable {d:Type}
theorem cY{c a:d}{b e:Wy d}(f:c=a)(g:b=e):c::b=a::e:=by rw[f,g]
theorem kQ(b:d)(a:Wy d):(b::a).getLast?=some (a.getLast?.getD b):=by
 cases a with
 |nil=>rfl
 |cons c a=>rw[List.getLast?_cons_cons];cases e:(c::a).getLast? with
  |none=>simp at e
  |some f=>rfl
def Q1:Nat:=0x1310112101f3e8e1000bf01f0af11110111113e8e111001777770127402f201622
theorem rF{it l acc loc L d ep Vc:Nat}{b:ug}{R rs:Wy dh}{a:dh}{e:WA (Wz×Wz)}{t1 t2:Nat}(p:pP e)(q:H[d]?=some (.ref c))(n:kg a)(o:b.size<=1000000)
 (r:∀k v w m x,pP k->OK u (tI (Pm u) it l acc loc L (d+1) ep m H (b.push x) R rs k v w)):∃s t,OK u (Hh (Pm u) it l acc loc L d ep Vc H b R rs c a e t1 t2 s t):=by
 have C:(eH a).size=a.1.size+1+(jc a.2 #[10] #[10,32]).size+1:=by
  simp[eH];omega
 obtain⟨y,z⟩:=n;have i:cq u (Hi (Pm u) it l acc loc L d ep H b R rs c a):=⟨λg j h=>iy q,eG (by show a.1.size+1<=_;omega),yW rfl (by show a.2.size+_*2<=_;omega) (by omega),eG (by rw[Array.size_append];show a.1.size+1+_<=_;omega),eG (by rw[Array.size_append,Array.size_append];show a.1.size+1+_+1<=_;omega),λg j h=>lC o,λg j h=>r _ _ _ _ _ (.inr ⟨_,_,_,_,rfl⟩),cg⟩
 rcases p with rfl|⟨A,D,G,I,rfl⟩
 ·exact⟨λf=>f 3,λf=>f 4,oT Q1 [[0,1],[],[],[],[],[5],[3,4,5,6]] [3,2,1,0] (dT [93,27,35,49,51] λf=>dI (odd (odd (cn 1 (odd (odd (cn 2 (odd (cn 27 (odd f)))))))))) i (J:=[[],[],[],[],[],[],[.UO 0]])⟩
 ·exact⟨λ_=>t1,λ_=>t2,oT Q1 [[0,1],[],[],[],[],[5],[3,4,5,6]] [3,2,1,0] (dT [93,27,35,0,0] λf=>dI (odd (odd (cn 1 (odd (odd (cn 2 (odd (cn 27 (odd f)))))))))) i (J:=[[],[],[],[],[],[],[.UO 0]])⟩
theorem rG{u:WB}{c b e f d a:Nat}{H:ug}{M:Wy dh}(y:∀l∈M,kg l):∀(j:Wy dh) (h k:Nat) (i:ug) (n:WA (Wz×Wz)) (o p:Nat),M.drop h=j->h<=M.length->i.size+j.length<=1000000->pP n->
  OK u (tI (Pm u) c b e f d h a k H i M j n o p)
 |[],h,k,i,n,o,p,m,N,A,C=>by
  refine ct.member (xs:=H) (rows:=M) (.head _) λQ _=> ?_
  have O:h=H.size:=by
   have:=congrArg List.length m;simp at this;omega
  subst O;have s:OK u (Hj (Pm u) c b e f d a k H i M n o p):=by
   refine oT 0x13101121 [[0,1]] [3,2,1,0] (cJ []) ⟨λG P J=>fP (by simp),cg⟩ (Y:=[λG P J=>jM c b H.size H a])
  refine s.alt rfl rfl rfl rfl rfl rfl λg r=>⟨λ_=>k,r,rfl, ?_,rfl,rfl,rfl,rfl⟩
  show[_,_,_,_]=[_,_,_,_];rw[show jE i [] (cn 5 λ_=>k)=i by unfold jE;simp[d3]]
  rfl
 |l::j,h,k,i,n,o,p,m,N,A,C=>by
  refine ct.member (xs:=H) (rows:=M) (.head _) λQ R=> ?_
  have T:h<M.length:=by
   have:=congrArg List.length m;simp at this;omega
  have w:M[h]?=some l:=by
   have:=congrArg (·[0]?) m;simpa[List.getElem?_drop]using this
  obtain⟨v,t⟩:∃v,H[h]?=some v:=⟨H[h]'(by omega),by simp[show h<H.size by omega]⟩;obtain⟨D,rfl⟩:=R h v t;have F:l∈M:=t9 w;have a3:i.size+j.length+1<=1000000:=by simpa[Nat.add_assoc]using A
  obtain⟨V,W,s⟩:=rF (u:=u) (it:=c) (l:=b) (acc:=e) (loc:=f) (L:=d) (ep:=a) (Vc:=k) (R:=M) (rs:=j) (t1:=o) (t2:=p) C t (y l F) (by omega) λX Z a0 I a1 L=>rG y j (h+1) I (i.push a1) X Z a0 (by
   have:=congrArg (List.drop 1) m;simpa[List.drop_drop]using this) T (by rw[Array.size_push];omega) L
  refine ct.more (bs:=[⟨H,M⟩,⟨#[.ref D],[l]⟩]) (s.alt rfl rfl rfl rfl rfl rfl λg r=> ?_) λa2 x B q=> ?_
  ·cases z:j.getLast? with
   |none=>
    refine⟨cons (g 1) (cons (g 2) (cons (V g) (cons (W g) (cons (g 9) (cons (g 0) (cn 10 g)))))),r,rfl, ?_,rfl,rfl,rfl,rfl⟩;show[_,_,_,_]=[_,_,_,_];refine cY rfl (cY rfl (cY ?_ (cY ?_ rfl)))
    ·show cm _ _=cm _ _;unfold jE;rw[gu];rfl
    ·unfold kP;rw[kQ,z];rfl
   |some a4=>
    refine⟨cons (g 5) (cons (g 6) (cons (g 7) (cons (g 8) (cons (g 9) (cons (g 0) (cn 10 g)))))),r,rfl, ?_,rfl,rfl,rfl,rfl⟩;show[_,_,_,_]=[_,_,_,_];refine cY rfl (cY rfl (cY ?_ (cY ?_ rfl)))
    ·show cm _ _=cm _ _;unfold jE;rw[gu];rfl
    ·unfold kP;rw[kQ,z];rfl
  ·rcases t6 q with rfl|q
   ·exact x _ (.head _)
   ·rw[List.mem_singleton]at q;subst q;exact(x _ (.head _)).at t w
end
variable {M:Wy dh}
def yX(a:Wy dh):dh:=a.getLast?.getD (#[],#[])
def xj(d:WC)(e:Nat)(c:ug)(b:Wy dh)(a:AL):uk:=[dL "list_iterator" [.none,.int c.size 0],cm c e,cm ⟨d3 (b.map eH) (cn 5 a)⟩ (a 4),kO d (some (.bytes (yX b).1 (a 0),.bytes (yX b).2 (a 1))) (a 2) (a 3)]
def nc(f:WC)(i:Bool)(c l b d a h k:Nat)(e:ug)(g:Wy dh):Spec:=
 ⟨if i then .compStart vt 0 (.ref c) (.ref b) (yV vt (lq "_law_rows.<locals>.") 948 d a)else vu c b d a,if i then 44 else 40,some a,⟨pl (mD f c l b d 0 h k e #[] none 0 0),[],λj _=>xj f h e g j,nn,nn,nn,[⟨e,g⟩],nn⟩,λ_ _=>.ok .next⟩
theorem rH(j:∀m∈M,kg m)(l:M≠[])(k:M.length<=1000000):OK u (nc (Pm u) false g c f h e a d H M):=by
 refine(rG j M 0 d #[] none 0 0 rfl (Nat.zero_le _) (by simpa using k) (.inl rfl)).alt rfl rfl rfl rfl rfl rfl λi n=>⟨i,n,rfl, ?_,rfl,rfl,rfl,rfl⟩
 show[_,_,_,_]=[_,_,_,_];refine cY rfl (cY rfl (cY ?_ (cY ?_ rfl)))
 ·show cm _ _=cm _ _;unfold jE;simp
 ·unfold kP yX;cases b:M.getLast? with
  |none=>simp at b;exact absurd b l
  |some o=>rfl
theorem xk(l:∀p∈M,kg p)(n:M≠[])(m:M.length<=1000000):OK u (nc (Pm u) true g c f h e a d H M):=by
 obtain⟨o,b1,b2⟩:=u;cases b2 with
 |true=>exact oT 0x112 [[0,1,2,3]] [3,2,1,0] (dT [] λb=>dI b) ⟨λi k j=>rH l n m,cg⟩ (Y:=[λi k j=>nc (Pm ⟨o,b1,true⟩) false g c f h e a d H M]) (J:=[[.UO 0]])
 |false=>exact oT 0x1111011112 [[0,1,2,3]] [3,2,1,0] (dT [] λb=>dI b) ⟨λi k j=>rH l n m,cg⟩ (Y:=[λi k j=>nc (Pm ⟨o,b1,false⟩) false g c f h e a d H M]) (J:=[[.UO 0]])
def eI(b:cl)(a:Wy cl):cl:=Builtin.Bytes.joined b a
def FX(c:cl)(b:Wy cl)(e:Wy AL->AL):U:=λa g f=>fh "bytes.join" [.bytes c (tk a 0),.ref (ad a 1)] [(ad a 1,cm ⟨d3 b (e f)⟩ (eJ g 0))] λd=>.bytes (eI c b) (d 0)
theorem yY{a:Wy AL->AL}(e:A≠[])(f:(eI k A).size<=16777216)(g:A.foldl (· + ·.size) (k.size*(A.length-1))<=16777216):∀b d c,OK u (FX k A a b d c):=λb d c=>h3 e rfl f g
def ng(a:Wy dh):cl:=eI #[] (a.map eH)
def cz(a:Wy dh)(b:cl):cl:=(ng a++ #[10])++b
def cH(a:Wy AL)(b:Nat):AL:=(a[b]?).getD λ_=>0
def eN(d c:Nat)(a:ug)(b:Wy dh)(e:cl)(g:Nat):Spec:=
 ⟨ul 949 [.ref d,.bytes e g],60,none,⟨pl [(d,cm a c)],[],λ_ _=>[cm a c],nn,nn,nn,[⟨a,b⟩],nn⟩,λf _=>uj (.bytes (cz b e) (f 0))⟩
def jf:Code->Nat
 | .compStart _ _ (.ref a) _ _=>a
 | .compLoop _ _ (.ref a) _ _=>a
 |_=>0
def hC:Code->Nat
 | .compStart _ _ _ (.ref a) _=>a
 | .compLoop _ _ _ (.ref a) _=>a
 |_=>0
def hD:Code->Nat
 | .compStart _ _ _ _ a=>a.locals
 | .compLoop _ _ _ _ a=>a.locals
 |_=>0
def l9:Code->Nat
 | .compStart _ _ _ _ a=>a.frame.getD 0
 | .compLoop _ _ _ _ a=>a.frame.getD 0
 |_=>0
theorem yZ(h:∀l∈M,kg l)(f:M≠[])(i:M.length<=1000000)(n:(cz M k).size<=16777216)(j:(M.map eH).foldl (· + ·.size) 0<=16777216):OK u (eN c a H M k d):=by
 have m:(cz M k).size=(ng M).size+1+k.size:=by simp[cz]
 refine oT 0x10311f0012201210100200f10120124012 [[2,4,1,0],[1],[],[]] [0] (cJ [18]) ⟨λb g e=>xk h f i,yY (by simpa using f) (by show(ng M).size<=_;omega) (by simpa using j),eG (by show _+1<=_;omega),eG (by rw[Array.size_append];show _+1+_<=_;omega),cg⟩ (Y:=[λb g e=>nc (Pm u) true (jf b) c (hC b) (hD b) (l9 b) a (eJ g 2) H M,FX #[] (M.map eH) λe=>cn 5 (cH e 0),je (ng M) #[10],je (ng M++ #[10]) k]) (J:=[[.UO 0],[],[],[]])
def xl(a:Fin 16)(c:Nat):Spec:=⟨ul 146 [.int (rD a) c],20,none,UM [] (λ_=>[]) (λ_=>[]),λb _=>uj (.int (a.val:Nat) (b 0))⟩
theorem nh(c:Fin 16):OK u (xl c a):=by
 obtain⟨f,b1,b2⟩:=u
 by_cases b:c.val<10
 ·refine oT 0x100109f010103f1011 [] [] (cJ [5]) trivial (Y:=[]) (H:= ?_);revert b;revert c;refine vl ?_ ?_ ?_ ?_ ?_ ?_ ?_ ?_ ?_ ?_ ?_ ?_ ?_ ?_ ?_ ?_<;>first|exact λb=>absurd b (by decide)|exact λ_ d e=>by cases b1<;>kernel_rfl
 ·refine oT 0x100109f0e06f0111011 [] [] (cJ [9]) trivial (Y:=[]) (H:= ?_);revert b;revert c;refine vl ?_ ?_ ?_ ?_ ?_ ?_ ?_ ?_ ?_ ?_ ?_ ?_ ?_ ?_ ?_ ?_<;>first|exact λb=>absurd (by decide) b|exact λ_ d e=>by cases b1<;>kernel_rfl
def Nf:PySem.Expr:=tH [17,1] [1]
def envX(g:PySem.Expr)(f:Scope)(b:Wy (Str×Addr))(e:Str)(c d a:Nat):Env:=⟨f,d,3,b,e,none,.ref c,some a,0⟩
def Hk(c:Scope):Scope:={c with names:=c.names.map λ(b,a)=>if a== .free then(b,.cell)else(b,a)}
def y0(c b a:Nat):Env:=envX Nf (Hk (Qp Nf)) [(lq "text",c)] (lq "unhexlify.<locals>.") 150 b a
def CN(c b e d a:Nat):Code:= .compLoop Nf 0 (.ref c) (.ref b) (y0 e d a)
def dP(a:Wz):gi:=⟨.type "cell",none,.cell (some a),#[]⟩
def kR(a:WC)(b:WA Wz)(c:Nat):gi:=match b with
 |none=>fk [] 0
 |some d=>fk [dx a "k" c d] 1
def yd(a b:Fin 16):Int:=((a.val*16+b.val:Nat):Int)
def kS(a:ug)(c:Nat)(d:Int)(b:AL):ug:=a++(⟨oh (List.replicate c d) b⟩:ug)
def tJ(a:WC)(e:WA Wz)(f:Nat)(d:Nat)(b:AL)(c:Int):gi:=match d with
 |0=>kR a e f
 |_+1=>kR a (some (.int c (b 0))) (b 1)
def ma(a:WC)(f c l g e:Nat)(m:Int)(h:Nat)(d:ug)(b:cl)(n o:Fin 16)(k:Nat)(i:WA Wz)(j:Nat):Wy (Nat×gi):=[(f,fS m (h:Nat) 2),(c,cm d e),(l,dP (.bytes b k)),(g,kR a i j)]
def pQ(d:WC)(c:Int)(a:Nat)(g:ug)(e:cl)(f h:Fin 16)(k:Nat)(i:WA Wz)(j:Nat)(b:AL):uk:=[fS (c+2*a) 0 2,cm (kS g a (yd f h) (cn 4 b)) (b 2),dP (.bytes e k),tJ d i j a b (c+2*a-2)]
def CO(b:WC)(h e n i a q:Nat)(o:Int)(j:Nat)(f:ug)(c:cl)(d g:Fin 16)(m:Nat)(k:WA Wz)(l:Nat):Spec:=
 ⟨CN h e n i a,60,some a,⟨pl (ma b h e n i q o j f c d g m k l),[],λp _=>pQ b o j f c d g m k l p,nn,nn,nn,[],nn⟩,λ_ _=>.ok .next⟩
def oV(c:cl)(d:Int)(e:Int):U:=λa _ _=>fh "bytes.__getitem__" [.bytes c (tk a 0),.int d (tk a 1)] [] λb=>.int e (b 0)
def cF(d:gi)(c:Nat):Wz:=match d.data with
 | .dict b _=>(match b.toList[c]? with|some a=>a.val|none=>.none)
 |_=>.none
def Rf(f:WC)(j h n k e:Nat)(d:Int)(l:Nat)(i:ug)(g:cl)(b c:Fin 16)(m:Nat):U:=λo a p=>
 CO f j h n k e (eJ a 1) (d+2) l (i.push (.int (yd b c) (df (l8 a 4 1)))) g b c m (some (.int d (CL (a[3]?.getD default) 0))) (dN (a[3]?.getD default) 0)
def Rg(f:WC)(j h n k e o:Nat)(d:Int)(l:Nat)(i:ug)(g:cl)(b c:Fin 16)(m:Nat)(q:WA Wz)(r:Nat)(p:AL->Nat):Spec:=
 ⟨CN j h n k e,60,some e,⟨pl (ma f j h n k o d (l+1) i g b c m q r),[],λa _=>pQ f (d+2) l (i.push (.int (yd b c) (a 0))) g b c m (some (.int d (a 1))) (p a) (cn 3 a),nn,nn,nn,[],nn⟩,λ_ _=>.ok .next⟩
def Rh(l:WC)(i m p n k:Nat)(b:Int)(f:Nat)(g:ug)(d:cl)(a e:Fin 16)(o:Nat):Wy U:=[λc j h=>yP i b (f+1:Nat) 2 (b+2) (f:Nat),oV d b (rD a),λc j h=>xl a (tk c 0),mulR (a.val:Nat) 16 ((a.val*16:Nat):Int),oV d (b+1) (rD e),λc j h=>xl e (tk c 0),CJ g,Rf l i m p n k b f g d a e o]
def Ri(b:WC)(g d l h a f:Nat)(m:Int)(e:ug)(c:cl)(n o:Fin 16)(k:Nat)(i:WA Wz)(j:Nat):Spec:=
 ⟨CN g d l h a,60,some a,⟨pl (ma b g d l h f m 0 e c n o k i j),[],λp _=>[fS m 0 2,cm e f,dP (.bytes c k),kR b i j],nn,nn,nn,[],nn⟩,λ_ _=>.ok .next⟩
def gV(b:cl)(e f:Fin 16)(a:Int)(d:Nat):Prop:=0<=a/\a+2*d<1000000/\∀c<d,b[a.toNat+2*c]?=some (dM e)/\b[a.toNat+2*c+1]?=some (dM f)
def q6:Nat:=0x13101124403430df2034207f0101101222
theorem xm{it acc tx loc L ep:Nat}{a:Fin 16}{tt:Nat}{b:WA Wz}{t1:Nat}(v:b=none\/∃h j,b=some (.int h j))(s:gV k T a q (c+1))(t:H.size<=1000000)
 (w:∀i y m h,(i=none\/∃z j,i=some (.int z j))->OK u (CO (Pm u) it acc tx loc L m (q+2) c (H.push h) k T a tt i y)):∃x,OK u (Rg (Pm u) it acc tx loc L ep q c H k T a tt b t1 x):=by
 obtain⟨n,A,o⟩:=s;obtain⟨p,r⟩:=o 0 (by omega);have l:cq u (Rh (Pm u) it acc tx loc L q c H k T a tt):=⟨λd f e=>tE (by omega) rfl (by omega),λd f e=>iu n (by omega) (by simpa using p),λd f e=>nh T,pL (.of_right (by decide+kernel)) (by simp),λd f e=>iu (by omega) (by omega) (by
  have:(q+1).toNat=q.toNat+1:=by omega
  rw[this];simpa using r),λd f e=>nh a,λd f e=>lC t,λd f e=>w _ _ _ _ (.inr ⟨_,_,rfl⟩),cg⟩
 rcases v with rfl|⟨h,C,rfl⟩
 ·exact⟨λg=>g 2,oT q6 [[0],[],[],[],[],[],[1],[0,1,2,3]] [3,2,1,0] (dT [105,0,1] λg=>dI (odd (cn 1 (odd (odd (cn 2 (odd (cn 1 (odd (odd (cn 1 (odd g)))))))))))) l⟩
 ·exact⟨λ_=>t1,oT q6 [[0],[],[],[],[],[],[1],[0,1,2,3]] [3,2,1,0] (dT [105,0,0] λg=>dI (odd (cn 1 (odd (odd (cn 2 (odd (cn 1 (odd (odd (cn 1 (odd g)))))))))))) l⟩
def q8:Nat:=0x1310100f1001
theorem y1{u:WB}{e d h f c:Nat}{k:cl}{T a:Fin 16}{g:Nat}:∀(m:Nat) (l:Nat) (b:Int) (j:ug) (n:WA Wz) (o:Nat),(n=none\/∃t D,n=some (.int t D))->gV k T a b m->j.size+m<=1000000->
  OK u (CO (Pm u) e d h f c l b m j k T a g n o)
 |0,l,b,j,n,o,v,r,z=>by
  have q:OK u (Ri (Pm u) e d h f c l b j k T a g n o):=by
   refine oT q8 [] [3,2,1,0] (cJ []) trivial (Y:=[])
  refine q.alt rfl rfl rfl rfl rfl rfl λi p=>⟨λ_=>l,p,rfl, ?_,rfl,rfl,rfl,rfl⟩
  show[_,_,_,_]=[_,_,_,_];refine cY ?_ (cY ?_ (cY rfl (cY rfl rfl)))
  ·rw[show b+2*((0:Nat):Int)=b by omega]
  ·show cm _ _=cm _ _;unfold kS;simp[oh]
 |m+1,l,b,j,n,o,v,r,z=>by
  obtain⟨A,q⟩:=xm (u:=u) (it:=e) (acc:=d) (tx:=h) (loc:=f) (L:=c) (ep:=l) (tt:=g) (t1:=o) v r (by omega) λC G w t x=>y1 m w (b+2) (j.push t) C G x (by
   obtain⟨H,I,y⟩:=r;refine⟨by omega,by omega,λs J=> ?_⟩
   have:=y (s+1) (by omega);rw[show(b+2).toNat+2*s=b.toNat+2*(s+1) by omega];exact this) (by rw[Array.size_push];omega)
  refine q.alt rfl rfl rfl rfl rfl rfl λi p=> ?_
  cases m with
  |zero=>
   refine⟨cons (i 1) (cons (A i) (cons (i 5) (cons 0 (cons (i 0) (cn 7 i))))),p,rfl, ?_,rfl,rfl,rfl,rfl⟩;show[_,_,_,_]=[_,_,_,_];refine cY ?_ (cY ?_ (cY rfl (cY ?_ rfl)))
   ·rw[show b+2+2*((0:Nat):Int)=b+2*((0+1:Nat):Int) by omega]
   ·show cm _ _=cm _ _;unfold kS;rw[gu];rfl
   ·rw[show b+2*((0+1:Nat):Int)-2=b by omega];rfl
  |succ m=>
   refine⟨cons (i 3) (cons (i 4) (cons (i 5) (cons 0 (cons (i 0) (cn 7 i))))),p,rfl, ?_,rfl,rfl,rfl,rfl⟩;show[_,_,_,_]=[_,_,_,_];refine cY ?_ (cY ?_ (cY rfl (cY ?_ rfl)))
   ·rw[show b+2+2*((m+1:Nat):Int)=b+2*((m+1+1:Nat):Int) by omega]
   ·show cm _ _=cm _ _;unfold kS;rw[gu];rfl
   ·rw[show b+2+2*((m+1:Nat):Int)-2=b+2*((m+1+1:Nat):Int)-2 by omega];rfl
section
def ki(b:Int)(a:AL):ug:=⟨oh (List.replicate 20 b) a⟩
def B7(a:Int):cl:=⟨List.replicate 20 a.toNat.toUInt8⟩
theorem ck:OK u (FT e d f 20 c (ki q y) (B7 q) (B7 q)):=
 oT 0x111011215 [[0,1]] [2,1,0] (cJ [1]) ⟨λa g b=>fP (by simp[ki,oh,List.replicate]),cg⟩ (Y:=[λa g b=>jM d e 20 (ki q y) c])
theorem uu:∀(m:Nat) (c:Int) (d:Nat->Nat) (e:Nat) (b:Wz),(oh (List.replicate m c) d)[e]?=some b->∃f,b= .int c f
 |0,c,d,e,b,a=>by simp[oh]at a
 |m+1,c,d,0,b,a=>by
  simp[List.replicate_succ,oh]at a;exact⟨_,a.symm⟩
 |m+1,c,d,e+1,b,a=>by
  simp only[List.replicate_succ,oh,List.getElem?_cons_succ]at a;exact uu m c (cy d) e b a
theorem vw(c:Wz->UInt8)(e:UInt8):∀(m:Nat) (a:Int) (b:Nat->Nat),(∀f,c (.int a f)=e)->(oh (List.replicate m a) b).map c=List.replicate m e
 |0,a,b,d=>rfl
 |m+1,a,b,d=>by
  rw[List.replicate_succ,List.replicate_succ,oh,List.map_cons,d,vw c e m a (cy b) d]
theorem ni:∀(a:Wy Int) (b:Nat->Nat),(oh a b).length=a.length
 |[],_=>rfl
 |_::a,b=>congrArg (· +1) (ni a (cy b))
theorem oW(b:Int)(a:AL):(ki b a).size=20:=by show(oh _ a).length=20;rw[ni];simp
theorem Hm(j:a<256):OK u (FT e d f 0 c (ki (a:Int) y) #[] (B7 (a:Int))):=by
 have i:ct PW (W2 u) (KB (W2 u)) (FT e d f (ki (a:Int) y).size c (ki (a:Int) y) (B7 (a:Int)) (B7 (a:Int))):=by
  rw[oW];exact ck
 refine yO i 20 0 #[] (by rw[oW]) (λk l m g=> ?_) ?_ (by decide)
 ·have h:(oh (List.replicate 20 (a:Int)) y)[k]?=some l:=by simpa[ki]using g
  obtain⟨b,rfl⟩:=uu _ _ _ _ _ h;exact⟨a,b,rfl,j⟩
 ·rw[List.drop_zero];show #[]++((oh (List.replicate 20 (a:Int)) y).map _).toArray=B7 _;rw[vw _ (Int.toNat (a:Int)).toUInt8 20 (a:Int) y (λb=>rfl)]
  simp[B7]
def y2(d c:Nat)(a:Int)(b:AL):Spec:=
 ⟨um "bytes.__new__" [.type "bytes",.ref d],60,none,UM [(d,cm (ki a b) c)] (λ_=>[cm (ki a b) c]) (λ_=>[]),λe _=>uj (.bytes (B7 a) (e 0))⟩
theorem CP(g:a<256):OK u (y2 e c (a:Int) y):=by
 have:∀b:Int,b=(a:Int)->OK u (y2 e c b y):=λb h=>oT Q0 [[1,2,0]] [0] (cJ [2]) ⟨λd i f=>by subst h;exact Hm g,cg⟩ (Y:=[λd i f=>FT e (ad d 1) (ad d 2) 0 c (ki b y) #[] (B7 b)])
 exact this _ rfl
def tK(g:WC)(k:Bool)(d c f e b m:Nat)(h:cl)(i j:Fin 16)(l:Nat):Spec:=
 ⟨if k then .compStart Nf 0 (.ref d) (.ref c) (y0 f e b)else CN d c f e b,if k then 64 else 60,some b,⟨pl (ma g d c f e m 0 20 #[] h i j l none 0),[],λa _=>[fS 40 0 2,cm (ki (yd i j) (cn 4 a)) (a 2),dP (.bytes h l),kR g (some (.int 38 (a 0))) (a 1)],nn,nn,nn,[],nn⟩,λ_ _=>.ok .next⟩
theorem CR(b:WC)(e:cl)(c d:Fin 16)(f:Nat)(a:AL):pQ b 0 20 #[] e c d f none 0 a=[fS 40 0 2,cm (ki (yd c d) (cn 4 a)) (a 2),dP (.bytes e f),kR b (some (.int 38 (a 0))) (a 1)]:=by
 have g:kS #[] 20 (yd c d) (cn 4 a)=ki (yd c d) (cn 4 a):=by
  unfold kS ki;rw[Array.empty_append]
 have h:(0:Int)+2*((20:Nat):Int)=40:=by decide
 unfold pQ;rw[g,h];have i:tJ b none 0 20 a (40-2)=kR b (some (.int 38 (a 0))) (a 1):=by
  unfold tJ;rw[show(40:Int)-2=38 by decide]
 rw[i]
variable {a:Fin 16}
theorem y4(l:gV k T a 0 20):OK u (tK (Pm u) false d f h g e c k T a i):=by
 have j:OK u (CO (Pm u) d f h g e c 0 20 #[] k T a i none 0):=y1 20 c 0 #[] none 0 (.inl rfl) l (by simp);have e1:(tK (Pm u) false d f h g e c k T a i).code=CN d f h g e:=rfl;have e2:(tK (Pm u) false d f h g e c k T a i).dep=60:=rfl;refine ct.alt j e1 e2 ?_ ?_ ?_ ?_ ?_
 ·exact rfl
 ·exact rfl
 ·exact rfl
 ·exact rfl
 ·exact λb m=>⟨b,m,rfl,CR _ _ _ _ _ _,rfl,rfl,rfl,rfl⟩
theorem CS(n:gV k T a 0 20):OK u (tK (Pm u) true d f h g e c k T a i):=by
 obtain⟨o,b1,b2⟩:=u;cases b2 with
 |true=>exact oT 0x112 [[0,1,2,3]] [3,2,1,0] (dT [] λb=>dI b) ⟨λj m l=>y4 n,cg⟩ (Y:=[λj m l=>tK (Pm ⟨o,b1,true⟩) false d f h g e c k T a i])
 |false=>exact oT 0x1111011112 [[0,1,2,3]] [3,2,1,0] (dT [] λb=>dI b) ⟨λj m l=>y4 n,cg⟩ (Y:=[λj m l=>tK (Pm ⟨o,b1,false⟩) false d f h g e c k T a i])
def fl(b:cl)(d:Int):U:=λc _ _=>fh "len" [.bytes b (tk c 0)] [] λa=>.int d (a 0)
def y5:Code->Nat
 | .compStart _ _ _ _ b=>(match b.cells with|(_,a)::_=>a|_=>0)
 |_=>0
def Ng(a:cl)(b d:Fin 16)(e:Nat):Spec:=⟨ul 151 [.bytes a e],90,none,UM [] (λ_=>[]) (λ_=>[]),λc _=>uj (.bytes (B7 (yd b d)) (c 0))⟩
theorem Hn(g:gV k T a 0 20)(f:k.size=40):OK u (Ng k T a c):=
 oT 0x1207f11a0ff00000324f202f506f1207f001111011012011 [[],[],[2,1,4,0],[1]] [] (cJ [35]) ⟨λb d e=>cN (by rw[f];rfl) (by omega),λb d e=>cN (by rw[f];rfl) (by omega),λb d e=>CS g,λb d e=>CP (by omega),cg⟩ (Y:=[fl k 40,fl k 40,λb d e=>tK (Pm u) true (jf b) (hC b) (y5 b) (hD b) (l9 b) (eJ d 1) k T a c,λb d e=>y2 (ad b 1) (eJ d 0) (yd T a) (cn 4 (cH e 0))])
def B8(a:cl)(c:Nat)(b:Bool):Spec:=⟨ul 186 [.bytes a c],120,none,UM [] (λ_=>[]) (λ_=>[]),λd _=>uj (.bool b)⟩
def pR(c:Int)(d:Bool):U:=λa b e=>fh "tuple.__contains__" [.ref (ad a 0),.int c (tk a 1)] [(ad a 0,eE ([.int 40 (lk b 0 0),.int 64 (lk b 0 1)]:ui).toArray)] λ_=>.bool d
theorem oX:∀a d b,OK u (pR 40 true a d b):=λa d b=>by
 refine rt (e:=λf=>match f with| .int 40 _=>true|_=>false) (λg c=> ?_) rfl
 simp only[List.mem_cons,List.not_mem_nil,or_false]at c;rcases c with rfl|rfl
 ·exact Eqv.int rfl
 ·exact Eqv.int rfl
theorem Ho(g:gV k T a 0 20)(e:k.size=40):OK u (B8 k c true):=
 oT 0x1000110bf00101201101122002010 [[],[0],[]] [] (cJ []) ⟨λb f d=>cN (by rw[e];rfl) (by omega),oX,λb f d=>Hn g e,cg⟩ (Y:=[fl k 40,pR 40 true,λb f d=>Ng k T a c])
theorem Hp(a:k.size=39):OK u (B8 k c false):=
 oT 0x1000310f01012207f102f011 [[]] [] (cJ []) ⟨λb e d=>cN (by rw[a];rfl) (by omega),cg⟩ (Y:=[fl k 39])
def rI(a:cl)(c:Nat)(b:Str)(d:Nat):Spec:=⟨ul 193 [.bytes a c,.str b d],140,none,UM [] (λ_=>[]) (λ_=>[]),λe _=>uj .none⟩
theorem nj{b:Str}(g:gV k T a 0 20)(h:k.size=40):OK u (rI k c b d):=
 oT 0x100011111000101 [[]] [] (cJ []) ⟨λe i f=>Ho g h,cg⟩ (Y:=[λe i f=>B8 k c true])
end
def ux:Wy (cl×Int×Bool):=FV++[(#[43,48,49,48,48],3600,false)]
def iR(a:Fin 7):cl×Int×Bool:=ux.getD a.val (#[],0,false)
def Rj(a:Fin 7)(b:Nat):gi:=eE #[.int (iR a).2.1 b,.bool (iR a).2.2]
def Nh(b:Fin 7)(c:Nat):Spec:=⟨ul 619 [.bytes (iR b).1 c],40,none,UM [] (λ_=>[]) (λa=>[(a 0,Rj b (a 1))]),λa _=>uj (.ref (a 0))⟩
def q7:Nat:=0x100309f21df150df2200200200f163bf52bf816f00319f505f0113333109f102f01130
def Q2:Nat:=0x100309f21df150df2200200200f302ff09f816f00319f505f0113333109f102f01130
theorem Hr(b:Fin 7):OK u (Nh b a):=by
 match b with
 |0=>exact oT q7 [] [3] (cJ [35,34]) trivial (Y:=[])
 |1=>exact oT Q2 [] [3] (cJ [37,36]) trivial (Y:=[])
 |2=>exact oT q7 [] [3] (cJ [35,34]) trivial (Y:=[])
 |3=>exact oT 0x100309f21df150df2200200200f302f626fb1cf40af00319f505f0113333109f102f01130 [] [3] (cJ [38,37]) trivial (Y:=[])
 |4=>exact oT q7 [] [3] (cJ [35,34]) trivial (Y:=[])
 |5=>exact oT Q2 [] [3] (cJ [37,36]) trivial (Y:=[])
 |6=>exact oT q7 [] [3] (cJ [35,34]) trivial (Y:=[])
def Ni:Wy (cl×Int):=[(#[48],0),(#[49,55,48,48,48,48,48,48,48,48],1700000000),(#[57,50,50,51,51,55,50,48,51,54,56,53,52,55,55,53,56,48,55],9223372036854775807),(#[53],5),(#[49,50],12),(#[57,50,50,51,51,55,50,48,51,54,56,53,52,55,55,53,56,48,56],9223372036854775808)]
def pS(a:Fin 6):cl×Int:=Ni.getD a.val (#[],0)
def Nj(a:Fin 6)(c:Nat):Spec:=⟨.call (.type "int") ⟨[.bytes (pS a).1 c],[]⟩,30,none,UM [] (λ_=>[]) (λ_=>[]),λb _=>uj (.int (pS a).2 (b 0))⟩
theorem Hs(b:Fin 6):OK u (Nj b a):=by
 match b with
 |0=>exact oT 0x1102f011 [] [] (cJ [0]) trivial (Y:=[])
 |1=>exact oT 0x1102f011 [] [] (cJ [0]) trivial (Y:=[])
 |2=>exact oT 0x1102f011 [] [] (cJ [0]) trivial (Y:=[])
 |3=>exact oT 0x1102f011 [] [] (cJ [0]) trivial (Y:=[])
 |4=>exact oT 0x1102f011 [] [] (cJ [0]) trivial (Y:=[])
 |5=>exact oT 0x1102f011 [] [] (cJ [0]) trivial (Y:=[])
def ky(c:uk)(a b:Nat):Wz:=match(c[a]?.getD default).data with
 | .fields d=>(d.toList[b]?).getD .none
 |_=>.none
def SF(b:WA Int)(c:Nat):Wz:=match b with
 |none=>.none
 |some a=>.int a c
def dE(d:WA Int)(b c:Int):Int:=match d with
 |none=>c
 |some a=>max 0 (min (if a<0 then a+b else a) b)
def du(d g:cl)(f e:WA Int):U:=λa b h=>fh "bytes.__getitem__" [.bytes d (tk a 0),.ref (ad a 1)] [(ad a 1,gB (SF f (df (ky b 0 0))) (SF e (df (ky b 0 1))))] λc=>.bytes g (c 0)
theorem de{b a:WA Int}(f:k.extract (dE b k.size 0).toNat (dE a k.size k.size).toNat=l)(g:k.size<=16777216):∀c e d,OK u (du k l b a c e d):=λc e d=>by
 refine yM ?_ ?_ ?_ g
 ·cases b;exact .none;exact .int _ _
 ·cases a;exact .none;exact .int _ _
 ·cases b<;>cases a<;>exact f
def CT(c d:cl)(e:Nat):U:=λa _ _=>fh "bytes.rindex" [.bytes c (tk a 0),.bytes d (tk a 1)] [] λb=>.int (e:Nat) (b 0)
def CU(b c:cl)(e:Wy cl):U:=λa _ _=>rk "bytes.rsplit" [.bytes b (tk a 0),.bytes c (tk a 1),.int 1 (tk a 2)] [] λd=>cm ⟨d3 e d⟩ 0
def Rk(b:cl)(a:Fin 6)(c d e:Nat):gi:=eE #[.bytes b d,.int (pS a).2 e,.ref c]
def Rl(a:Fin 7)(b:Nat):gi:=eE #[.int (iR a).2.1 b,.bool (iR a).2.2]
def Rm(b:cl)(e:Nat)(d:cl)(c:Fin 6)(f:Fin 7):Spec:=⟨ul 634 [.bytes b e],60,none,UM [] (λ_=>[]) (λa=>[(a 0,Rk d c (a 1) (a 2) (a 3)),(a 1,Rl f (a 4))]),λa _=>uj (.ref (a 0))⟩
structure tL(V person rest:cl)(n:Nat)(j:Fin 6)(z:Fin 7):Prop where
 size:V.size<=100000
 ri:(if(V.size:Int)-0<2 then none else Builtin.Bytes.rfind? V #[62,32] 0 V.size)=some n
 pe:V.extract 0 (n+1)=person
 re:V.extract (n+2) V.size=rest
 sp:pK rest #[32] 1=[(pS j).1,(iR z).1]
 big:n+2<=V.size
theorem y6:∀(a:Fin 6) (c:Fin 7),∀b∈[(pS a).1,(iR c).1],b.size<=16777216:=by decide+kernel
theorem Ht{b:Fin 6}{c:Fin 7}(i:tL k m l a b c):OK u (Rm k d m b c):=by
 obtain⟨p,j,n,h,o,q⟩:=i;have r:l.size<=k.size:=by rw[<-h,Array.size_extract];omega
 refine oT 0x10022df20111ef010df20af22220130f23330510ff37fc37f77770071770701310f0f09f111011111211001205fbbbb00 [[],[0],[0],[],[],[]] [12,11] (cJ [613,549,15,149,261]) ⟨λe g f=>xb j,de ?_ (by omega),de ?_ (by omega),λe g f=>rm rfl o (y6 b c) (by simp),λe g f=>Hs b,λe g f=>Hr c,cg⟩ (Y:=[CT k #[62,32] a,du k m (some 0) (some ((a:Int)+1)),du k l (some ((a:Int)+2)) none,CU l #[32] [(pS b).1,(iR c).1],λe g f=>Nj b (tk e 0),λe g f=>Nh c (tk e 0)])
 ·have e1:(dE (some 0) (k.size:Nat) 0).toNat=0:=by
   simp only[dE];rw[if_neg (by omega)];omega
  have e2:(dE (some ((a:Int)+1)) (k.size:Nat) (k.size:Nat)).toNat=a+1:=by
   simp only[dE];rw[if_neg (by omega)];omega
  rw[e1,e2];exact n
 ·have e1:(dE (some ((a:Int)+2)) (k.size:Nat) 0).toNat=a+2:=by
   simp only[dE];rw[if_neg (by omega)];omega
  have e2:(dE none (k.size:Nat) (k.size:Nat)).toNat=k.size:=by simp[dE]
  rw[e1,e2];exact h
section
def ot(b:Wy WL)(a:Nat):gi:=⟨.type "frame",none,.dict b.toArray a,#[]⟩
def FY(a:Nat):Env:=xi [39] (lq "_parse_message.<locals>.") 398 397 a []
def eo(a:Nat):Code:= .func ((inner (mj PW.main.body [39]))) (FY a)
def SG(d:uh)(b:Env):Code:=match mj PW.main.body d with
 | .While e a c _=>.whileLoop e a c b
 |_=>.call .none ⟨[],[]⟩
def JT(a:Nat):Code:=SG [39,7] (FY a)
def cp(b:Wy cl)(a:AL)(c:Nat):gi:=cm ⟨d3 b a⟩ c
def hf(h:cl)(c:Wy cl)(g:cl)(d:Wy AL->AL):U:=λa f e=>fh "bytes.join" [.bytes h (tk a 0),.ref (ad a 1)] [(ad a 1,cm ⟨d3 c (d e)⟩ (eJ f 0))] λb=>.bytes g (b 0)
def pT(c d:cl)(f:Int)(e:Nat):U:=λa _ _=>fh "bytes.find" [.bytes c (tk a 0),.bytes d (tk a 1),.int f (tk a 2)] [] λb=>.int (e:Nat) (b 0)
def CV(b c:Int)(d:Bool):U:=λa _ _=>fh "int.__eq__" [.int b (tk a 0),.int c (tk a 1)] [] λ_=>.bool d
def vx(b c:cl)(d:Bool):U:=λa _ _=>fh "bytes.startswith" [.bytes b (tk a 0),.bytes c (tk a 1)] [] λ_=>.bool d
def T6(b c:cl)(d:Bool):U:=λa _ _=>fh "bytes.endswith" [.bytes b (tk a 0),.bytes c (tk a 1)] [] λ_=>.bool d
def tM(b c:cl)(d:Bool):U:=λa _ _=>fh "bytes.__eq__" [.bytes b (tk a 0),.bytes c (tk a 1)] [] λ_=>.bool d
def y8(b c:cl)(e:Wy cl):U:=λa _ _=>rk "bytes.split" [.bytes b (tk a 0),.bytes c (tk a 1),.int 1 (tk a 2)] [] λd=>cm ⟨d3 e d⟩ 0
def fm:gi:=⟨.none,none,.fields #[],#[]⟩
def Hu(b:WG)(a:Nat):oq:=
  (⟨eo a, none, [], a, 60, ⟨[⟨a, ot [dx b.params "chunks" 0 (.ref 0)] 1, true⟩, ⟨0, cp [#[]] (λ_ => 0) 0, false⟩, ⟨393, fm, false⟩], [], nn, nn, nn, nn, [], nn⟩, λ_ _ => .ret (.ok .next)⟩,
   [hf #[] [#[]] #[] λ_ => λ_ => 0], [λc e d => oU (JT a) a])
def mE(u:WB)(a:Nat):Wy WM:=pM (ke u (Hu (W2 u) a).1 ({n:=207,UT:=dc 0x11012100f10222204100f0aaa0000993,us:=[hf #[] [#[]] #[] λ_=>λ_=>0],ps:=[[1]],ss:=[λb d c=>oU (JT a) a],U2:=[[]],UY:=[[]],U1:=[[]]}:fF) ⟨0,0,0,0⟩ (λ_=>0) (λ_=> #[]))
structure PM where
 (L lc:Nat)
 T:cl
 tT:Nat
 place:Int
 tp:Nat
 kb:cl
 (tk lv sf:Nat)
 VZ:Int
 te:Nat
 line:cl
 tl:Nat
 rb:cl
 tr:Nat
def nq(b:WC)(a:PM)(c:Nat->Nat):gi:=ot [dx b "chunks" (c 0) (.ref a.lc),dx b "text" (c 1) (.bytes a.T a.tT),dx b "place" (c 2) (.int a.place a.tp),dx b "k" (c 3) (.bytes a.kb a.tk),dx b "v" (c 4) (.ref a.lv),dx b "eof" (c 5) (.bool true),dx b "_strip_last_newline" (c 6) (.ref a.sf),dx b "end" (c 7) (.int a.VZ a.te),dx b "line" (c 8) (.bytes a.line a.tl),dx b "rest" (c 9) (.bytes a.rb a.tr)] 10
def cZ:Str:=lq "_parse_message.<locals>._strip_last_newline"
def e8(c:Nat)(doc e:Wz):gi:=⟨.type "function",none,.func (match mj PW.main.body [39,6]with
 | .FunctionDef d a b _ _ _ f .. =>{name:=d,qualname:=cZ,params:=a,body:= .stmts b,scope:=f,globals:=3,closure:=[],defaults:= .none,kwdefaults:= .none,doc:=doc,pyModule:=e,annotations:=none,code:= .ref c,closureTuple:= .none,builtins:=0}
 |_=>default),#[]⟩
def dq(a:Wz)(c:Str)(d:Nat)(b:ui):gi:=⟨.type "code",none,.fields (a:: .str c d::b).toArray,#[]⟩
def y9(f a:Nat)(c e b:Wz)(g:Nat)(d:ui)(h j:cl)(k:Nat):Spec:=
 ⟨.call (.ref f) ⟨[.bytes h k],[]⟩,40,none,UM [(f,e8 a c e),(a,dq b cZ g d)] (λ_=>[e8 a c e,dq b cZ g d]) (λ_=>[]),λi _=>uj (.bytes j (i 0))⟩
variable {b:cl} {d:Wz}
theorem za(o:k.size≠0)(p:k.size<=1000000)(j:oR k #[10]=true)(m:k.extract 0 (k.size-1)=b):OK u (y9 c e v x d f L k b a):=by
 obtain⟨g,l⟩:∃g,k.size=g+1:=⟨k.size-1,by omega⟩;refine oT 0x1012110bf1101210110012 [[],[],[0]] [1,0] (cJ [20]) ⟨λh n i=>cN (by rw[l]) (by omega),λh n i=>M1 j,de ?_ (by omega),cg⟩ (Y:=[fl k ((g+1:Nat):Int),T6 k #[10] true,du k b none (some (-1))])
 have e1:(dE none (k.size:Nat) 0).toNat=0:=by simp[dE]
 have e2:(dE (some (-1)) (k.size:Nat) (k.size:Nat)).toNat=k.size-1:=by
  simp only[dE];rw[if_pos (by decide)];omega
 rw[e1,e2];exact m
def fdOf(b:gi):FuncData:=match b.data with
 | .func a=>a
 |_=>default
def vy(d:WC)(a:PM)(h:AL)(j:Wy cl)(c:AL)(g b:Nat)(f k e:Wz)(l:Nat)(i:ui):Wy cK:=[⟨a.L,nq d a h,true⟩,⟨a.lv,cp j c g,false⟩,⟨a.sf,e8 b f k,false⟩,⟨b,dq e cZ l i,false⟩]
def kj(d:PM)(a:Nat)(line:cl)(b c:Nat):PM:={d with place:=(a:Int)+1,tp:=b,VZ:=(a:Int)+1,te:=b,line:=line,tl:=c}
def Hv(a:PM)(e:AL)(k:Wy cl)(b:Nat)(d c m:cl)(h:Nat)(i l f:Wz)(n:Nat)(j:ui):Wy U:=[fl a.T (a.T.size:Nat),JQ a.place (a.T.size:Nat) true,pT a.T #[10] a.place b,CV (b:Nat) (-1) false,du a.T d (some a.place) (some ((b:Int)+1)),vx d #[32] false,hf #[] k c (λ_=>e),λg p o=>y9 a.sf h i l f n j c m (tk g 0)]
def Nk(c:WG)(a:PM)(b:Wy WM):oq:=
 (⟨JT a.L,none,b,a.L,60,⟨vy c.params a (λ_=>0) [] (λ_=>0) 0 100003 .none .none .none 0 [],[],nn,nn,nn,nn,[],nn⟩,λ_ _=>.ret (.ok .next)⟩,Hv a (λ_=>0) [] 0 #[] #[] #[] 100003 .none .none .none 0 [],[])
def SH(a:Nat):PM:=⟨a,100004,#[],0,0,0,#[],0,100001,100002,0,0,#[],0,#[],0⟩
def Q3:Nat:=0x11001012012208f1101101210200f10308f106f2222012410
def vz(u:WB)(a:Nat):WA (End×St):=
 let b:=SH a
 let c:=mE u a
 ke u (Nk (W2 u) b c).1 ({n:=263,UT:=dc Q3,us:=(Hv b (λ_=>0) [] 0 #[] #[] #[] 100003 .none .none .none 0 []),ps:=[[],[],[],[],[0],[],[2],[3,4]]}:fF) ⟨0,0,0,0⟩ (λ_=>0) (λ_=> #[])
def Hw(u:WB)(a:Nat)(b:Wz):End:=cT (vz u a) b
def Nl(u:WB)(a:PM)(h:AL)(j:Wy cl)(c:AL)(g n:Nat)(m o:cl)(e:Nat)(f k d:Wz)(l:Nat)(i:ui):Seg:=
 ⟨JT a.L,none,mE u a.L,a.L,60,⟨vy (Pm u) a h j c g e f k d l i,[],λb _=>[nq (Pm u) (kj a n m (b 2) (b 3)) h,cp j c g,e8 e f k,dq d cZ l i],nn,λb _=>[⟨b 0,eE #[.bytes a.kb a.tk,.bytes o (b 1)],false⟩],nn,[],nn⟩,λb _=>Hw u a.L (.ref (b 0))⟩
theorem iD{f:WJ}{g:WG}{e:Nat->WA gi}{d:Int}{b:Bool}(h:(d==q)=b):ct f g e (fh "int.__eq__" [.int d a,.int q c] [] λ_=>.bool b):=
 eU (by decide+kernel) F.entry_int_eq (gives_int_eq d q a c) λk j i=>by rw[h];exact i (λ_=>0) j.toks
structure dA(T:cl)(p:Int)(line:cl)(n:Nat):Prop where
 p0:0<=p
 lt:p<(T.size:Nat)
 find:oQ T #[10] p.toNat=some n
 ext:T.extract p.toNat (n+1)=line
 le:n+1<=T.size
 big:T.size<=1000000
theorem dB(a:dA l q m c):l.extract (dE (some q) (l.size:Nat) 0).toNat (dE (some ((c:Int)+1)) (l.size:Nat) (l.size:Nat)).toNat=m:=by
 have b:=a.p0;have d:=a.lt;have e:=a.le;have e1:(dE (some q) (l.size:Nat) 0).toNat=q.toNat:=by
  simp only[dE];rw[if_neg (by omega)];omega
 have e2:(dE (some ((c:Int)+1)) (l.size:Nat) (l.size:Nat)).toNat=c+1:=by
  simp only[dE];rw[if_neg (by omega)];omega
 rw[e1,e2];exact a.ext
def pU(a:cl):cl:=a.extract 0 (a.size-1)
structure kT(parts:Wy cl)(V r:cl):Prop where
 ne:parts≠[]
 join:eI #[] parts=V
 pos:V.size≠0
 big:V.size<=1000000
 fold:parts.foldl (· + ·.size) 0<=1000000
 ends:oR V #[10]=true
 strip:pU V=r
variable {a:PM}
theorem Hx(l:dA a.T a.place m c)(o:cG m #[32]=false)(h:kT A k b):
  fj u (Nl u a y A z g c m b e v x d f L):=by
 have p:cq u (Hv a z A c m k b e v x d f L):=⟨λi n j=>cN rfl (by have:=l.big;omega),λi n j=>i9 (decide_eq_true l.lt),λi n j=>fO l.p0 l.find,λi n j=>iD (by simp),de (dB l) (by have:=l.big;omega),λi n j=>hA o,λi n j=>h3 h.ne h.join (by have:=h.big;omega) (by have:=h.fold;simp;omega),λi n j=>za h.pos h.big h.ends h.strip,cg⟩
 exact sT Q3 [[],[],[],[],[0],[],[2],[3,4]] [3,2,1,0,5] (cJ [507,379,59,107]) p
def CW(u:WB)(b:PM)(f:AL)(h:Wy cl)(k:AL)(m:Nat)(l:Wy cl)(o:Nat)(n p:cl)(d:Nat)(e i c:Wz)(j:Nat)(g:ui):Seg:=
 ⟨JT b.L,none,mE u b.L,b.L,60,⟨vy (Pm u) b f h k m d e i c j g,[],λa _=>[nq (Pm u) (kj b o n (a 2) (a 3)) f,cp (h++l) (cn 5 a) (a 4),e8 d e i,dq c cZ j g],nn,λa _=>[⟨a 0,eE #[.bytes b.kb b.tk,.bytes p (a 1)],false⟩],nn,[],nn⟩,λa _=>Hw u b.L (.ref (a 0))⟩
def Rn(u:WB)(b:PM)(g:AL)(i:Wy cl)(l:AL)(n s:Nat)(r c:cl)(m:Wy cl)(p:Nat)(o q:cl)(e:Nat)(f j d:Wz)(k:Nat)(h:ui):Seg:=
 ⟨JT b.L,none,mE u b.L,b.L,60,⟨vy (Pm u) b g i l n e f j d k h,[],λa _=>[nq (Pm u) (kj b p o (a 2) (a 3)) g,cp ((i++[c])++m) (cn 5 a) (a 4),e8 e f j,dq d cZ k h],nn,λa _=>[⟨a 0,eE #[.bytes b.kb b.tk,.bytes q (a 1)],false⟩],nn,[],nn⟩,λa _=>Hw u b.L (.ref (a 0))⟩
inductive iE (T:cl):Int->Wy cl->Int->Prop where
 |nil (p:Int):iE T p [] p
 |cons {p:Int} {line c:cl} {n:Nat} {cs:Wy cl} {q:Int} (h:dA T p line n) (hs:cG line #[32]=true) (hc:line.extract 1 line.size=c) (t:iE T ((n:Int)+1) cs q):iE T p (c::cs) q
theorem tN{u:WB}{y:AL}{g:Nat}{m b k:cl}{e:Nat}{v x d:Wz}{f:Nat}{L:ui}{l:cl}{q:Int}(G:dA l q m g)(H:cG m #[32]=false):∀(n:Wy cl) (a:PM) (j:Wy cl) (F:AL) (r:Nat),a.T=l->iE l a.place n q->kT (j++n) k b->(j++n).length<=1000000->
  fj u (CW u a y j F r n g m b e v x d f L)
 |[],a,j,F,r,z,A,w,C=>by
  subst z;cases A;rw[List.append_nil]at w;have p:fj u (Nl u a y j F r g m b e v x d f L):=Hx G H w;refine gb.alt p rfl rfl rfl rfl rfl rfl rfl rfl λo D=>⟨cons (o 0) (cons (o 1) (cons (o 2) (cons (o 3) (cons r F)))),D,rfl, ?_,rfl,rfl,rfl,rfl⟩
  show[_,_,_,_]=[_,_,_,_];refine cY rfl (cY ?_ rfl);rw[List.append_nil];rfl
 |c::n,a,j,F,r,z,A,w,C=>by
  subst z;cases A with
  | @cons _ h _ t _ _ p R Y P=>
   have a0:h.size<=a.T.size:=by
    rw[<-p.ext,Array.size_extract];omega
   have X:=p.big;have I:fj u (Rn u a y j F r t h c n g m b e v x d f L):=by
    have Z:j.length+(n.length+1)<=1000000:=by simpa using C
    have W:cq u [fl a.T (a.T.size:Nat),JQ a.place (a.T.size:Nat) true,pT a.T #[10] a.place t,CV (t:Nat) (-1) false,du a.T h (some a.place) (some ((t:Int)+1)),vx h #[32] true,du h c (some 1) none,rC j F c]:=⟨λc i s=>cN rfl (by omega),λc i s=>i9 (decide_eq_true p.lt),λc i s=>fO p.p0 p.find,λc i s=>iD (by simp),de (dB p) (by omega),λc i s=>hA R,de (by
     have e1:(dE (some 1) (h.size:Nat) 0).toNat=min 1 h.size:=by
      simp only[dE];rw[if_neg (by omega)];omega
     have e2:(dE none (h.size:Nat) (h.size:Nat)).toNat=h.size:=by simp[dE]
     rw[e1,e2,<-Y]
     by_cases T:h.size=0
     ·have:h= #[]:=Array.eq_empty_of_size_eq_zero T;subst this;rfl
     ·rw[Nat.min_eq_left (by omega)]) (by omega),iz (by omega),cg⟩
    have V:sr u [λJ i s=>CW u (kj a t h (df (cF (i[0]?.getD default) 2)) (df (cF (i[0]?.getD default) 8))) y (j++[c]) (mm F j.length (df (l8 i 4 1))) (eJ i 1) n g m b e v x d f L]:=⟨λJ i s=>tN G H n (kj a t h (df (cF (i[0]?.getD default) 2)) (df (cF (i[0]?.getD default) 8))) (j++[c]) _ _ rfl P (by rw[List.append_assoc];exact w) (by rw[List.append_assoc];exact C),cg⟩
    exact sT 0x11001130f2208f1101101210200f1001200f2012233332001201421 [[],[],[],[],[0],[],[0],[3]] [3,2,1,0,6] (dT [] λo=>dI (odd (odd (cn 2 (odd (cn 3 (odd (cn 4 (odd (cn 3 (odd (cn 1 (odd (odd o)))))))))))))) W (O:=_) (Q:=V) (M:=[[2,3,4,5]]) (N:=[[]]) (V:=[[]])
   refine gb.alt I rfl rfl rfl rfl rfl rfl rfl rfl λo D=>⟨o,D,rfl, ?_,rfl,rfl,rfl,rfl⟩
   show[_,_,_,_]=[_,_,_,_];refine cY rfl (cY ?_ rfl);rw[List.append_assoc];rfl
def iV:End->Resume->Sem PySem.Fin
 | .susp _ _ _ a _ _ _=>a
 |_=>λ_=>.pure (.done .next)
def iW:End->Code
 | .susp _ _ _ _ a _ _=>a
 |_=>.call .none ⟨[],[]⟩
def gc:End->Wy WM
 | .susp _ _ _ _ _ _ a=>a
 |_=>[]
def CX(u:WB)(a:Nat):End:=Hw u a .none
def vA(c:PM)(kb rb:cl)(a b lv:Nat):PM:={c with kb:=kb,tk:=a,lv:=lv,rb:=rb,tr:=b}
def zb(c:WC)(a:PM)(f:AL)(b:Nat)(e h d:Wz)(i:Nat)(g:ui):Wy cK:=[⟨a.L,nq c a f,true⟩,⟨a.sf,e8 b e h,false⟩,⟨b,dq d cZ i g,false⟩]
def Hy(u:WB)(b:PM)(g:AL)(f n:cl)(o:Wy cl)(l:Nat)(k m:cl)(d:Nat)(e i c:Wz)(j:Nat)(h:ui):Seg:=
 ⟨iW (CX u b.L),some (iV (CX u b.L) (.send .none)),gc (CX u b.L),b.L,70,⟨zb (Pm u) b g d e i c j h,[],λa _=>[nq (Pm u) (kj (vA b f n (a 0) (a 1) (a 2)) l k (a 5) (a 6)) g,e8 d e i,dq c cZ j h],nn,λa _=>[⟨a 3,eE #[.bytes f (a 0),.bytes m (a 4)],false⟩],nn,[],nn⟩,λa _=>Hw u b.L (.ref (a 3))⟩
structure eQ(line kb rb:cl):Prop where
 ne:(line.toList==(#[10]:cl).toList)=false
 sp:gg line #[32] 1=[kb,rb]
 k:kb.size<=1000000
 r:rb.size<=1000000
theorem eQ.all(a:eQ m n l):∀c∈[n,l],c.size<=16777216:=by
 intro c b;simp only[List.mem_cons,List.not_mem_nil,or_false]at b;rcases b with rfl|rfl
 ·have:=a.k;omega
 ·have:=a.r;omega
theorem Hz(i:eQ a.line n l)(p:iE a.T a.place A q)(r:dA a.T q m g)(w:cG m #[32]=false)(s:kT (l::A) k b)(C:A.length<1000000):
  fj u (Hy u a y n l A g m b e v x d f L):=by
 have z:cq u [tM a.line #[10] false,y8 a.line #[32] [n,l]]:=⟨λj c h=>lB i.ne,λj c h=>m7 rfl i.sp i.all (by simp),cg⟩
 have t:sr u [λo c h=>CW u (vA a n l (df (cF (c[0]?.getD default) 3)) (df (cF (c[0]?.getD default) 9)) (match cF (c[0]?.getD default) 4 with| .ref d=>d|_=>0)) y [l] (iB c 1) (eJ c 1) A g m b e v x d f L]:=⟨λo c h=>tN r w A (vA a n l _ _ _) [l] _ _ rfl p s (by simp;omega),cg⟩
 exact sT 0x1103f0510f0f09f111011111211001555550661 [[],[]] [2,1,0,8] (cJ [10,14,28,36,44,52,60]) z (O:=_) (Q:=t) (M:=[[5,0,6,7]]) (N:=[[]]) (V:=[[]])
def kU(b:WC)(a:PM)(c:Nat->Nat):gi:=ot [dx b "chunks" (c 0) (.ref a.lc),dx b "text" (c 1) (.bytes a.T a.tT),dx b "place" (c 2) (.int a.place a.tp),dx b "k" (c 3) (.bytes a.kb a.tk),dx b "v" (c 4) (.ref a.lv),dx b "eof" (c 5) (.bool false),dx b "_strip_last_newline" (c 6) (.ref a.sf),dx b "end" (c 7) (.int a.VZ a.te),dx b "line" (c 8) (.bytes a.line a.tl),dx b "rest" (c 9) (.bytes a.rb a.tr)] 10
def Nm(u:WB)(a:PM):oq:=
 (⟨iW (CX u a.L),some (iV (CX u a.L) (.send .none)),gc (CX u a.L),a.L,70,⟨[⟨a.L,nq u.w.params a λ_=>0,true⟩],[],nn,nn,nn,nn,[],nn⟩,λ_ _=>.ret (.ok .next)⟩,[tM a.line #[10] true,du a.T #[] (some a.place) none],[])
def SI:Nat:=0x11012100f100120
def pV(u:WB)(b:Nat):WA (End×St):=
 let a:=SH b
 ke u (Nm u a).1 ({n:=121,UT:=dc SI,us:=[tM a.line #[10] true,du a.T #[] (some a.place) none],ps:=[[],[0]]}:fF) ⟨0,0,0,0⟩ (λ_=>0) (λ_=> #[])
def Nn(u:WB)(a:Nat)(b:Wz):End:=cT (pV u a) b
def CY(u:WB)(a:PM)(c:AL)(d:cl):Seg:=
 ⟨iW (CX u a.L),some (iV (CX u a.L) (.send .none)),gc (CX u a.L),a.L,70,⟨[⟨a.L,nq (Pm u) a c,true⟩],[],λb _=>[kU (Pm u) a c],nn,λb _=>[⟨b 0,eE #[.none,.bytes d (b 1)],false⟩],nn,[],nn⟩,λb _=>Nn u a.L (.ref (b 0))⟩
theorem HA(b:a.line= #[10])(g:0<=a.place)(h:a.place<=(a.T.size:Nat))(c:a.T.extract a.place.toNat a.T.size=k)(i:a.T.size<=1000000):fj u (CY u a y k):=by
 have d:cq u [tM a.line #[10] true,du a.T k (some a.place) none]:=⟨λe j f=>lB (by rw[b];rfl),de (by
  have e1:(dE (some a.place) (a.T.size:Nat) 0).toNat=a.place.toNat:=by
   simp only[dE];rw[if_neg (by omega)];omega
  have e2:(dE none (a.T.size:Nat) (a.T.size:Nat)).toNat=a.T.size:=by simp[dE]
  rw[e1,e2];exact c) (by omega),cg⟩
 exact sT SI [[],[0]] [0,2] (cJ [8,6]) d
def HB(u:WB)(a:Nat):End:=Nn u a .none
def zc(u:WB)(a:PM)(c:AL):Seg:=
 ⟨iW (HB u a.L),some (iV (HB u a.L) (.send .none)),gc (HB u a.L),a.L,70,⟨[⟨a.L,kU (Pm u) a c,true⟩],[],λb _=>[kU (Pm u) a c],nn,λb _=>[],nn,[],nn⟩,λb _=>.ret (.ok (.ret .none))⟩
theorem HC:fj u (zc u a y):=
 sT 0x1 [] [0] (cJ []) trivial (Y:=[])
end
variable {o p:cl} {C:Wy cl}
def ee(a:Nat):gi:=⟨.none,none,.fields #[.int 283 0,.int 4 0,.ref a],#[]⟩
def jW(a:Nat):Wz:= .str (lq "_strip_last_newline") a
def No(a:AL):ui:=[.str (lq "/claim/cut.py") (a 0),.int 283 0,.int 1 0,.int 0 0,.int 0 0,.int 19 0,.ref (a 1),.bool true,.int 181 0,.ref (a 2),.none,.ref (a 3),.ref (a 4),.ref (a 5),.int (a 6:Nat) 0,.int 283 0,.str (lq "/claim/cut.py") (a 7)]
def T7(a:ui):Wz:=(a[0]?).getD .none
def T8(a:ui):Nat:=df ((a[1]?).getD .none)
def hu(b:Wz):Nat:=match b with
 | .ref a=>a
 |_=>0
def HD(c:Nat)(a:gi)(d e f g:cl)(b:Nat):PM:=⟨c,hu (cF a 0),d,df (cF a 1),(b:Int)+1,df (cF a 2),e,df (cF a 3),hu (cF a 4),hu (cF a 6),(b:Int)+1,df (cF a 7),f,df (cF a 8),g,df (cF a 9)⟩
def Ro(a:gi):ui:=match a.data with
 | .fields b=>b.toList
 |_=>[]
def zd(u:WB)(c:Nat)(d g h b:cl)(j:Nat)(e:Wy cl)(k:Nat)(i l:cl):TG:=λm a n=>
 CW u (HD c (a[0]?.getD default) d g h b j) (λf=>dN (a[0]?.getD default) f) [b] (iB a 1) (eJ a 1) e k i l (hu (fdOf (a[2]?.getD default)).code) (fdOf (a[2]?.getD default)).doc (fdOf (a[2]?.getD default)).pyModule (T7 (Ro (a[3]?.getD default))) (T8 (Ro (a[3]?.getD default))) ((Ro (a[3]?.getD default)).drop 2)
def Qq(c f:Nat)(d e h:cl)(b:Nat)(g:cl)(a:AL):PM:=⟨c,f,d,a 7,(b:Int)+1,a 5,e,a 8,a 9,a 2,(b:Int)+1,a 5,g,a 6,h,a 10⟩
def Np(b:Nat)(a:AL):AL:=λi=>match i with
 |0=>b
 |i+1=>a (11+i)
def iF:Wz:= .str (S [108,97,119,95,106,102,48,48,50,53,95,48,49]) 1466
def kV(a:Nat):Wz:= .str (lq "Strip the last newline from value.") a
def zf(e:Wy cl)(d:AL)(a b f g:cl)(c:Nat):Wy U:=[hf #[] e a λ_=>d,fl a (a.size:Nat),JQ 0 (a.size:Nat) true,pT a #[10] 0 c,CV (c:Nat) (-1) false,du a b (some 0) (some ((c:Int)+1)),vx b #[32] false,tM b #[10] false,y8 b #[32] [f,g]]
def HE(u:WB)(b c h f:Nat)(e:Wy cl)(d:AL)(i o g m:cl)(p:Nat)(n:Wy cl)(k:Nat)(j l:cl):Seg:=
 ⟨eo b,none,[],b,90,⟨[⟨b,ot [dx (Pm u) "chunks" h (.ref c)] 1,true⟩,⟨c,cp e d f,false⟩,⟨393,fm,false⟩],[],λa _=>[nq (Pm u) (Qq b c i g m k j a) (Np h a),cp e d f,ee (a 3)],nn,
  λa _=>[⟨a 0,eE #[.bytes g (a 8),.bytes l (a 1)],false⟩,⟨a 2,e8 (a 3) (kV (a 4)) iF,false⟩,⟨a 3,dq (jW (a 21)) cZ (a 22) (No (cn 23 a)),false⟩],nn,[],nn⟩,λa _=>Hw u b (.ref (a 0))⟩
def zg(u:WB)(b d k h c:Nat)(f:Wz)(l:Nat)(j:ui)(g:Wy cl)(e:AL)(m s i q:cl)(t:Nat)(r:Wy cl)(o:Nat)(n p:cl):Seg:=
 ⟨eo b,none,[],b,90,⟨[⟨b,ot [dx (Pm u) "chunks" k (.ref d)] 1,true⟩,⟨d,cp g e h,false⟩,⟨393,ee c,false⟩,⟨c,dq f cZ l j,false⟩],[],λa _=>[nq (Pm u) (Qq b d m i q o n a) (Np k a),cp g e h,ee c,dq f cZ l j],nn,
  λa _=>[⟨a 0,eE #[.bytes i (a 8),.bytes p (a 1)],false⟩,⟨a 2,e8 c (kV (a 4)) iF,false⟩],nn,[],nn⟩,λa _=>Hw u b (.ref (a 0))⟩
structure dW(bs:Wy cl)(T:cl):Prop where
 ne:bs≠[]
 join:eI #[] bs=T
 fold:bs.foldl (· + ·.size) 0<=1000000
structure er(T:cl)(p:Int)(kb rb:cl)(UP:Wy cl)(np:Nat)(lp r:cl):Prop where
 go:∃q V,iE T p UP q/\dA T q lp np/\kT (rb::UP) V r
 sp:cG lp #[32]=false
 len:UP.length<1000000
theorem zh(f:dW C k)(d:dA k 0 l a)(h:cG l #[32]=false)(g:eQ l n m):cq u (zf C y k l n m a):=
 ⟨λb e c=>h3 f.ne f.join (by have:=d.big;omega) (by have:=f.fold;simp;omega),λb e c=>cN rfl (by have:=d.big;omega),λb e c=>i9 (decide_eq_true d.lt),λb e c=>fO d.p0 d.find,λb e c=>iD (by simp),de (dB d) (by have:=d.big;omega),λb e c=>hA h,λb e c=>lB g.ne,λb e c=>m7 rfl g.sp g.all (by simp),cg⟩
theorem rJ(b:er k ((a:Int)+1) n m A c o p):∀e g f,fj u (zd u d k n l m a A c o p e g f):=λe g f=>by
 obtain⟨q,V,h,i,j⟩:=b.go;exact tN i b.sp A (HD d _ k n l m a) [m] _ _ rfl h j (by have:=b.len;simp;omega)
theorem HF(b:dW C k)(i:dA k 0 l a)(q:cG l #[32]=false)(h:eQ l n m)(j:er k ((a:Int)+1) n m A c o p):
  fj u (HE u d f g e C y k l n m a A c o p):=
 sT 0x11253f1110222204100f0aaa00009929009012104f01299912bf29011999990108faa204fa012a0510f0f09f111011111211001000f0ed00fd0fd1 [[1],[],[],[],[],[0],[],[],[]] [2,1,0,17,10,9] (cJ [5157,6181,43,39,41,7205,8229,2,1829,4133,2341,3,7,9,13,15,45,69,293,3621,0,17,19,21,23,25,29,31,33,35,37]) (zh b i q h) (Y:=(zf C y k l n m a)) (O:=[zd u d k n l m a A c o p]) (Q:=⟨rJ j,cg⟩) (M:=[[14,0,6,7]]) (N:=[[]]) (V:=[[]])
theorem HG(b:dW C k)(q:dA k 0 l a)(s:cG l #[32]=false)(j:eQ l n m)(r:er k ((a:Int)+1) n m A c o p):
  fj u (zg u d f g e h v i L C y k l n m a A c o p):=
 sT 0x1124af111022220400003323003012104f01233312bf23011333330108f44204f401240510f0f09f111011111211001888880991 [[1],[],[],[],[],[0],[],[],[]] [3,2,1,0,12,5] (cJ [5133,6157,19,0,17,7181,8205,2,1805,4109,2317,3,7,9,13,15,21,45,269,3597]) (zh b q s j) (Y:=(zf C y k l n m a)) (O:=[zd u d k n l m a A c o p]) (Q:=⟨rJ r,cg⟩) (M:=[[8,0,6,11]]) (N:=[[]]) (V:=[[]])
variable {j:Nat}
section
variable {a:WA (End×St)}
theorem kW(b:qY (cT a .none)=true):∃f h g d i e,∀c,cT a c= .susp c f h g d i e:=by
 unfold cT at b|-;split at b
 ·exact⟨_,_,_,_,_,_,λc=>rfl⟩
 ·cases b
theorem vB(c:qY (cT a .none)=true):yv (cT a v)=v:=by obtain⟨f,h,g,d,i,e,b⟩:=kW c;rw[b];rfl
theorem rK(c:qY (cT a .none)=true):(cT a v).genState=(cT a .none).genState:=by obtain⟨f,h,g,d,i,e,b⟩:=kW c;rw[b,b];rfl
theorem nr(c:qY (cT a .none)=true):(cT a v).quiet=(cT a .none).quiet:=by obtain⟨f,h,g,d,i,e,b⟩:=kW c;rw[b,b];rfl
theorem rL(c:qY (cT a .none)=true):qY (cT a v)=true:=by obtain⟨f,h,g,d,i,e,b⟩:=kW c;rw[b];rfl
theorem dX{S:Seg}(h:qY (cT a .none)=true)(b:S.code=iW (cT a .none))(c:S.start=some (iV (cT a .none) (.send .none)))(d:S.fs=gc (cT a .none)):ha (cT a .none).genState S:=by obtain⟨g,j,i,l,k,f,e⟩:=kW h;rw[e]at b c d|-;exact .inr ⟨i,j,k,(g||f.any Frame.guarded),by rw[b,d];rfl,c⟩
theorem rM(u:WB)(a:Nat):qY (cT (vz u a) .none)=true:=by obtain⟨b,b1,b2⟩:=u;cases b1<;>kernel_rfl
theorem nt(u:WB)(a:Nat):(cT (vz u a) .none).quiet=true:=by obtain⟨b,b1,b2⟩:=u;cases b1<;>kernel_rfl
theorem zi(u:WB)(a:Nat):qY (cT (pV u a) .none)=true:=by obtain⟨b,b1,b2⟩:=u;cases b1<;>kernel_rfl
theorem xn(u:WB)(a:Nat):(cT (pV u a) .none).quiet=true:=by obtain⟨b,b1,b2⟩:=u;cases b1<;>kernel_rfl
def ye(d b:Nat)(e f:Wz)(h i:WI)(S:Seg)(g:Nat):Spec:=⟨um "generator.__next__" [.ref d],S.dep+30,none,⟨⟨d,ey b e f,false⟩::S.UM.pre,(b,h)::S.UM.UR,λa c=>ey b e f::S.UM.post a c,λa c=>i::S.UM.UQ a c,S.UM.new,S.UM.UW,S.UM.UX,S.UM.US⟩,λa _=>uj (.ref (a g))⟩
theorem vC{b:WI}{S:Seg}(o:fj u S)(n:ha b S)(l:∃j,(⟨S.fr,j,true⟩:cK)∈S.UM.pre/\ew j=true)(g:qY (cT a .none)=true)(m:(cT a .none).quiet=true)(i:∀e f,S.res e f=cT a (.ref (e d))):OK u (ye h c v x b (cT a .none).genState S d):=by
 have k:OK u (yB h c v x b S):=l4 (gR _) o n l (λe f=>by rw[i,nr g];exact m) (λe f=>by rw[i];exact rL g)
 refine k.alt rfl rfl rfl rfl rfl rfl λe f=>⟨e,f, ?_,rfl, ?_,rfl,rfl,rfl⟩
 ·show Except.ok (Flow.ret (yv (S.res e f)))=_;rw[i,vB g];rfl
 ·show(S.res e f).genState::_=_;rw[i,rK g];rfl
def fe(u:WB)(a:Nat):WI:=(cT (vz u a) .none).genState
def iG(u:WB)(a:Nat):WI:=(cT (pV u a) .none).genState
variable {q:Nat}
theorem HH{b:Nat}{a:cl}(h:dW C m)(p:dA m 0 n g)(s:cG n #[32]=false)(i:eQ n k l)(r:er m ((g:Int)+1) k l A f o a):
  OK u (ye e c v x (.fresh (eo d)) (fe u d) (HE u d b q j C y m n k l g A f o a) 0):=
 vC (HF h p s i r) (.inl ⟨rfl,rfl,rfl⟩) ⟨_,.head _,rfl⟩ (rM u d) (nt u d) λt w=>rfl
variable {p:ui} {r:Nat} {h:Wz}
theorem pW{b:Nat}{a:cl}(s:dW C m)(w:dA m 0 n g)(D:cG n #[32]=false)(t:eQ n k l)(z:er m ((g:Int)+1) k l A f o a):
  OK u (ye e c v x (.fresh (eo d)) (fe u d) (zg u d b q j i h r p C y m n k l g A f o a) 0):=
 vC (HG s w D t z) (.inl ⟨rfl,rfl,rfl⟩) ⟨_,.head _,rfl⟩ (rM u d) (nt u d) λG H=>rfl
variable {b:PM}
theorem fT{a:cl}{d g:Wz}(s:eQ b.line k l)(j:er b.T b.place k l A f o a):
  OK u (ye e c v x (fe u b.L) (fe u b.L) (Hy u b y k l A f o a i d g h r p) 3):=by obtain⟨w,V,m,n,q⟩:=j.go;exact vC (Hz s m n j.sp q j.len) (dX (rM u b.L) rfl rfl rfl) ⟨_,.head _,rfl⟩ (rM u b.L) (nt u b.L) λt z=>rfl
theorem zj(f:b.line= #[10])(a:0<=b.place)(d:b.place<=(b.T.size:Nat))(g:b.T.extract b.place.toNat b.T.size=k)(h:b.T.size<=1000000):
  OK u (ye e c v x (fe u b.L) (iG u b.L) (CY u b y k) 0):=
 vC (HA f a d g h) (dX (rM u b.L) rfl rfl rfl) ⟨_,.head _,rfl⟩ (zi u b.L) (xn u b.L) λi j=>rfl
theorem tO:OK u (hy e c v x (iG u b.L) (zc u b y)):=
 j9 (gR _) HC (dX (zi u b.L) rfl rfl rfl) ⟨_,.head _,rfl⟩ λa d=>rfl
end
section
def zk(e:uh)(c:Nat)(b:Env):Code:=match mj PW.main.body e with
 | .For f _ a d _=>.forLoop f (.ref c) a d b
 |_=>.call .none ⟨[],[]⟩
def Nq(a:Nat):Env:=xi [52] (lq "_parse_commit.<locals>.") 649 648 a []
def HI(b a:Nat):Code:=zk [52,10] b (Nq a)
structure PC where
 L:Nat
 (ch sg:Wz)
 (lp le:Nat)
 (tree UK UL encoding message:Wz)
 ls:Nat
 U0:Bool
 (field value:Wz)
def tQ(a:WC)(c:PC)(b:Nat->Nat):gi:=ot [dx a "chunks" (b 0) c.ch,dx a "signature_header" (b 1) c.sg,dx a "parents" (b 2) (.ref c.lp),dx a "extra" (b 3) (.ref c.le),dx a "tree" (b 4) c.tree,dx a "author" (b 5) c.UK,dx a "committer" (b 6) c.UL,dx a "encoding" (b 7) c.encoding,dx a "message" (b 8) c.message,dx a "signatures" (b 9) (.ref c.ls),dx a "in_parents" (b 10) (.bool c.U0),dx a "field" (b 11) c.field,dx a "value" (b 12) c.value] 13
structure PG where
 (ga g:Nat)
 (nm qn:Wz)
 x:PM
 ks:AL
 cc:Nat
 (doc pm a:Wz)
 tq:Nat
 l:ui
def vD(c:WC)(b:PG):Wy cK:=⟨b.ga,ey b.g b.nm b.qn,false⟩::zb c b.x b.ks b.cc b.doc b.pm b.a b.tq b.l
def g5(u:WB)(b:PG)(d i:cl)(c:Wy cl)(f:Nat)(e h:cl):U:=λj m k=>ye b.ga b.g b.nm b.qn (fe u b.x.L) (fe u b.x.L) (Hy u b.x b.ks d i c f e h b.cc b.doc b.pm b.a b.tq b.l) 3
def tR(a:PG)(b f:cl)(e:Nat)(c:cl)(g h d i j:Nat):PG:={a with x:=kj (vA a.x b f g h d) e c i j}
structure PS where
 x:PC
 ks:AL
 y:PG
 ps:Wy cl
 F:AL
 ep:Nat
 xs:ug
 E:Wy dh
 VG:Nat
 sg:Wy cl
 G:AL
 VL:Nat
inductive Kd where
 |tree|parent|UK|UL|encoding|sig|tag|rename
def cE:Kd->cl
 | .tree=> #[116,114,101,101]
 | .parent=> #[112,97,114,101,110,116]
 | .UK=> #[97,117,116,104,111,114]
 | .UL=> #[99,111,109,109,105,116,116,101,114]
 | .encoding=> #[101,110,99,111,100,105,110,103]
 | .sig=> #[103,112,103,115,105,103]
 | .tag=> #[109,101,114,103,101,116,97,103]
 | .rename=> #[72,71,58,114,101,110,97,109,101]
structure dm where
 kind:Kd
 rb:cl
 UP:Wy cl
 np:Nat
 (lp r:cl)
def nu:Wz->Bool
 | .none=>true
 |_=>false
def dn(a:PS)(b:dm)(c:AL):PS:=
 let d:PS:={a with y:=tR a.y (cE b.kind) b.rb b.np b.lp (c 0) (c 1) (c 2) (c 4) (c 5)}
 let x:PC:={a.x with field:= .bytes (cE b.kind) (c 0),value:= .bytes b.r (c 3)}
 match b.kind with
 | .parent=>match a.x.U0 with
  |true=>{d with x:=x,ps:=a.ps++[b.r],F:=mm a.F a.ps.length (c 3),ep:=a.ep+1}
  |false=>{d with x:=x}
 | .UK=>{d with x:={x with U0:=false,UK:= .bytes b.r (c 3)}}
 | .UL=>{d with x:={x with U0:=false,UL:= .bytes b.r (c 3)}}
 | .encoding=>{d with x:={x with U0:=false,encoding:=(match nu a.x.encoding with|true=>.bytes b.r (c 3)|false=>a.x.encoding)}}
 | .sig=>{d with x:={x with U0:=false},sg:=a.sg++[b.r],G:=mm a.G a.sg.length (c 3),VL:=a.VL+1}
 | .tag=>{d with x:={x with U0:=false},xs:=a.xs++ #[.ref (c 6)],E:=a.E++[(cE b.kind,b.r)],VG:=a.VG+1}
 | .rename=>{d with x:={x with U0:=false},xs:=a.xs++ #[.ref (c 6)],E:=a.E++[(cE b.kind,b.r)],VG:=a.VG+1}
 | .tree=>{d with x:={x with U0:=false}}
def eX(b:PS):Wy dm->AL->PS
 |[],_=>b
 |d::c,a=>eX (dn b d a) c (cn 7 a)
def hg:Wy dm->AL->AL
 |[],a=>a
 |_::b,a=>hg b (cn 7 a)
def FZ(b:WC)(a:PS):Wy cK:=⟨a.x.L,tQ b a.x a.ks,true⟩::(vD b a.y++[⟨a.x.lp,cp a.ps a.F a.ep,false⟩,⟨a.x.le,cm a.xs a.VG,false⟩,⟨a.x.ls,cp a.sg a.G a.VL,false⟩])
def F0(c:WC)(b:PS)(e:cl)(d:AL):uk:=[tQ c {b.x with field:= .none,value:= .bytes e (d 0),message:= .bytes e (d 0),U0:=false} b.ks,ey b.y.g b.y.nm b.y.qn,kU c b.y.x b.y.ks,e8 b.y.cc b.y.doc b.y.pm,dq b.y.a cZ b.y.tq b.y.l,cp b.ps b.F b.ep,cm b.xs b.VG,cp b.sg b.G b.VL]
def kk(c:WC)(e:PS)(b:Wy dm)(d:cl)(a:AL):uk:=F0 c (eX e b a) d (hg b a)
def tS(c:PS)(b:Wy dm)(a:AL):Wy jz:=[⟨(eX c b a).xs,(eX c b a).E⟩]
def fi(u:WB)(a:PS)(c:Wy dm)(d:cl):Spec:=
 ⟨HI a.y.ga a.x.L,160,some a.x.L,⟨FZ (Pm u) a,[(a.y.g,fe u a.y.x.L)],λb _=>kk (Pm u) a c d b,λ_ _=>[.finished],nn,nn,[⟨a.xs,a.E⟩],λb _=>tS a c b⟩,λ_ _=>.ok .next⟩
def ou(a:uk):AL:=λb=>match b with
 |0=>df (cF (a[0]?.getD default) 11)
 |1=>df (cF (a[2]?.getD default) 9)
 |2=>hu (cF (a[2]?.getD default) 4)
 |3=>df (cF (a[0]?.getD default) 12)
 |4=>df (cF (a[2]?.getD default) 2)
 |5=>df (cF (a[2]?.getD default) 8)
 |_=>hu (l8 a 8 1)
def mn(c:ug):U:=λa b d=>FR "list.append" [.ref (ad a 0),arg a 1] [(ad a 0,cm c (eJ b 0))] [cm (c++ #[arg a 1]) (eJ b 0+1)] .none
theorem fU(e:H.size<=1000000):∀a b c,OK u (mn H a b c):=λa b c=>by
 have:=lC (P:=PW) (w:=W2 u) (K:=KB (W2 u)) (l:=ad a 0) (as:=H) (ep:=eJ b 0) (v:=arg a 1) e;refine this.alt rfl rfl rfl rfl rfl rfl λd f=>⟨d,f,rfl, ?_,rfl,rfl,rfl,rfl⟩
 show[cm _ _]=[cm _ _];rw[Array.push_eq_append]
def gC(a:PS)(b:cl)(d c:Nat):PS:={a with x:={a.x with tree:= .bytes b d,sg:= .bytes (cE .sig) c}}
def cu(a:dm)(b:Kd):dm:={a with kind:=b}
structure fV(s:PS)(d:dm):Prop where
 hh:eQ s.y.x.line (cE d.kind) d.rb
 hr:er s.y.x.T s.y.x.place (cE d.kind) d.rb d.UP d.np d.lp d.r
def ff(a:cl):Prop:=(∃b c,gV a b c 0 20)/\a.size=40
variable {msg tb:cl} {ds:Wy dm} {d0:dm} {tt ts:Nat} {s:PS}
theorem CZ(e:fV s (cu d0 .UK))(g:∀a,OK u (fi u (dn ({(gC s tb tt ts)with x:={(gC s tb tt ts).x with UK:= .none}}) (cu d0 .UK) a) ds msg)):
  OK u (fi u ({(gC s tb tt ts)with x:={(gC s tb tt ts).x with UK:= .none}}) (cu d0 .UK::ds) msg):=by
 have f:cq u [g5 u s.y (cE .UK) (cu d0 .UK).rb (cu d0 .UK).UP (cu d0 .UK).np (cu d0 .UK).lp (cu d0 .UK).r,λc b d=>fi u (dn ({(gC s tb tt ts)with x:={(gC s tb tt ts).x with UK:= .none}}:PS) (cu d0 .UK) (ou b)) ds msg]:=⟨λc b d=>fT e.hh e.hr,λc b d=>g _,cg⟩
 exact oT 0x13201223310f0f09f1110111112110021bf511f604f0011555552 [[1,2,3,4],[4,5,6,7,8,9,10,11]] [7,6,5,4,3,2,1,0] (dT [0,2,4,8,10,12,6] λa=>dI (cn 7 (odd a))) f (G:=[[0],[0]]) (J:=[[],[.UO 0]]) (I:=[0]) (R:=[.UO 0])
theorem Db(e:fV s (cu d0 .UL))(g:∀a,OK u (fi u (dn ({(gC s tb tt ts)with x:={(gC s tb tt ts).x with UL:= .none}}) (cu d0 .UL) a) ds msg)):
  OK u (fi u ({(gC s tb tt ts)with x:={(gC s tb tt ts).x with UL:= .none}}) (cu d0 .UL::ds) msg):=by
 have f:cq u [g5 u s.y (cE .UL) (cu d0 .UL).rb (cu d0 .UL).UP (cu d0 .UL).np (cu d0 .UL).lp (cu d0 .UL).r,λc b d=>fi u (dn ({(gC s tb tt ts)with x:={(gC s tb tt ts).x with UL:= .none}}:PS) (cu d0 .UL) (ou b)) ds msg]:=⟨λc b d=>fT e.hh e.hr,λc b d=>g _,cg⟩
 exact oT 0x13201223310f0f09f11101111121100220f516fb04f0011555552 [[1,2,3,4],[4,5,6,7,8,9,10,11]] [7,6,5,4,3,2,1,0] (dT [0,2,4,8,10,12,6] λa=>dI (cn 7 (odd a))) f (G:=[[0],[0]]) (J:=[[],[.UO 0]]) (I:=[0]) (R:=[.UO 0])
theorem Dc(e:fV s (cu d0 .encoding))(g:∀a,OK u (fi u (dn ({(gC s tb tt ts)with x:={(gC s tb tt ts).x with encoding:= .none}}) (cu d0 .encoding) a) ds msg)):
  OK u (fi u ({(gC s tb tt ts)with x:={(gC s tb tt ts).x with encoding:= .none}}) (cu d0 .encoding::ds) msg):=by
 have f:cq u [g5 u s.y (cE .encoding) (cu d0 .encoding).rb (cu d0 .encoding).UP (cu d0 .encoding).np (cu d0 .encoding).lp (cu d0 .encoding).r,λc b d=>fi u (dn ({(gC s tb tt ts)with x:={(gC s tb tt ts).x with encoding:= .none}}:PS) (cu d0 .encoding) (ou b)) ds msg]:=⟨λc b d=>fT e.hh e.hr,λc b d=>g _,cg⟩
 exact oT 0x13201223310f0f09f11101111121100109f551bff04f5001155552 [[1,2,3,4],[4,5,6,7,8,9,10,11]] [7,6,5,4,3,2,1,0] (dT [0,2,4,8,10,12,6] λa=>dI (cn 7 (odd a))) f (G:=[[0],[0]]) (J:=[[],[.UO 0]]) (I:=[0]) (R:=[.UO 0])
theorem Dd{eb:cl}{et:Nat}(e:fV s (cu d0 .encoding))(g:∀a,OK u (fi u (dn ({(gC s tb tt ts)with x:={(gC s tb tt ts).x with encoding:= .bytes eb et}}) (cu d0 .encoding) a) ds msg)):
  OK u (fi u ({(gC s tb tt ts)with x:={(gC s tb tt ts).x with encoding:= .bytes eb et}}) (cu d0 .encoding::ds) msg):=by
 have f:cq u [g5 u s.y (cE .encoding) (cu d0 .encoding).rb (cu d0 .encoding).UP (cu d0 .encoding).np (cu d0 .encoding).lp (cu d0 .encoding).r,λc b d=>fi u (dn ({(gC s tb tt ts)with x:={(gC s tb tt ts).x with encoding:= .bytes eb et}}:PS) (cu d0 .encoding) (ou b)) ds msg]:=⟨λc b d=>fT e.hh e.hr,λc b d=>g _,cg⟩
 exact oT 0x13201223310f0f09f11101111121100155507f55f04f15001152 [[1,2,3,4],[4,5,6,7,8,9,10,11]] [7,6,5,4,3,2,1,0] (dT [0,2,4,8,10,12,6] λa=>dI (cn 6 (odd a))) f (G:=[[0],[0]]) (J:=[[],[.UO 0]]) (I:=[0]) (R:=[.UO 0])
theorem De(e:fV s (cu d0 .tree))(g:∀a,OK u (fi u (dn (gC s tb tt ts) (cu d0 .tree) a) ds msg)):
  OK u (fi u (gC s tb tt ts) (cu d0 .tree::ds) msg):=by
 have f:cq u [g5 u s.y (cE .tree) (cu d0 .tree).rb (cu d0 .tree).UP (cu d0 .tree).np (cu d0 .tree).lp (cu d0 .tree).r,λc b d=>fi u (dn (gC s tb tt ts:PS) (cu d0 .tree) (ou b)) ds msg]:=⟨λc b d=>fT e.hh e.hr,λc b d=>g _,cg⟩
 exact oT 0x13201223310f0f09f11101111121100155507f555001152 [[1,2,3,4],[4,5,6,7,8,9,10,11]] [7,6,5,4,3,2,1,0] (dT [0,2,4,8,10,12,6] λa=>dI (cn 6 (odd a))) f (G:=[[0],[0]]) (J:=[[],[.UO 0]]) (I:=[0]) (R:=[.UO 0])
theorem Df(e:fV s (cu d0 .parent))(g:∀a,OK u (fi u (dn ({(gC s tb tt ts)with x:={(gC s tb tt ts).x with U0:=false}}) (cu d0 .parent) a) ds msg)):
  OK u (fi u ({(gC s tb tt ts)with x:={(gC s tb tt ts).x with U0:=false}}) (cu d0 .parent::ds) msg):=by
 have f:cq u [g5 u s.y (cE .parent) (cu d0 .parent).rb (cu d0 .parent).UP (cu d0 .parent).np (cu d0 .parent).lp (cu d0 .parent).r,λc b d=>fi u (dn ({(gC s tb tt ts)with x:={(gC s tb tt ts).x with U0:=false}}:PS) (cu d0 .parent) (ou b)) ds msg]:=⟨λc b d=>fT e.hh e.hr,λc b d=>g _,cg⟩
 exact oT 0x13201223310f0f09f111011111211001100f704f0011552 [[1,2,3,4],[4,5,6,7,8,9,10,11]] [7,6,5,4,3,2,1,0] (dT [0,2,4,8,10,12,6] λa=>dI (cn 5 (odd a))) f (G:=[[0],[0]]) (J:=[[],[.UO 0]]) (I:=[0]) (R:=[.UO 0])
theorem Dg(e:fV s (cu d0 .parent))(i:ff d0.r)(f:s.ps.length<=1000000)(k:∀d,OK u (fi u (dn ({(gC s tb tt ts)with x:={(gC s tb tt ts).x with U0:=true}}) (cu d0 .parent) d) ds msg)):
  OK u (fi u ({(gC s tb tt ts)with x:={(gC s tb tt ts).x with U0:=true}}) (cu d0 .parent::ds) msg):=by
 have h:cq u [g5 u s.y (cE .parent) (cu d0 .parent).rb (cu d0 .parent).UP (cu d0 .parent).np (cu d0 .parent).lp (cu d0 .parent).r,λa b c=>rI (cu d0 .parent).r (tk a 0) (lq "invalid parent sha") (tk a 1),rC s.ps s.F (cu d0 .parent).r,λa b c=>fi u (dn ({(gC s tb tt ts)with x:={(gC s tb tt ts).x with U0:=true}}:PS) (cu d0 .parent) (ou b)) ds msg]:=⟨λa b c=>fT e.hh e.hr,λa b c=>(by obtain⟨⟨l,m,g⟩,j⟩:=i;exact nj g j),iz f,λa b c=>k _,cg⟩
 exact oT 0x13201223310f0f09f111011111211001100f704f00115505015aaaa501a22 [[1,2,3,4],[],[9],[4,5,6,7,8,9,10,11]] [7,6,5,4,3,2,1,0] (dT [0,2,4,8,10,12,6] λd=>dI (odd (odd (cn 6 (odd d))))) h (G:=[[0],[],[],[0]]) (J:=[[],[],[],[.UO 0]]) (I:=[0]) (R:=[.UO 0])
theorem Dh(e:fV s (cu d0 .sig))(f:s.sg.length<=1000000)(h:∀a,OK u (fi u (dn (gC s tb tt ts) (cu d0 .sig) a) ds msg)):
  OK u (fi u (gC s tb tt ts) (cu d0 .sig::ds) msg):=by
 have g:cq u [g5 u s.y (cE .sig) (cu d0 .sig).rb (cu d0 .sig).UP (cu d0 .sig).np (cu d0 .sig).lp (cu d0 .sig).r,rC s.sg s.G (cu d0 .sig).r,λc b d=>fi u (dn (gC s tb tt ts:PS) (cu d0 .sig) (ou b)) ds msg]:=⟨λc b d=>fT e.hh e.hr,iz f,λc b d=>h _,cg⟩
 exact oT 0x13201223310f0f09f11101111121100155507f55f04f150104f01155cccc501c22 [[1,2,3,4],[11],[4,5,6,7,8,9,10,11]] [7,6,5,4,3,2,1,0] (dT [0,2,4,8,10,12,6] λa=>dI (odd (cn 6 (odd a)))) g (G:=[[0],[],[0]]) (J:=[[],[],[.UO 0]]) (I:=[0]) (R:=[.UO 0])
def SJ:Nat:=0x13201223310f0f09f11101111121100155507f55f04f150104f011555bbbb55001c22
theorem Di(e:fV s (cu d0 .tag))(f:s.xs.size<=1000000)(h:∀a,OK u (fi u (dn (gC s tb tt ts) (cu d0 .tag) a) ds msg)):
  OK u (fi u (gC s tb tt ts) (cu d0 .tag::ds) msg):=by
 have g:cq u [g5 u s.y (cE .tag) (cu d0 .tag).rb (cu d0 .tag).UP (cu d0 .tag).np (cu d0 .tag).lp (cu d0 .tag).r,mn s.xs,λc b d=>fi u (dn (gC s tb tt ts:PS) (cu d0 .tag) (ou b)) ds msg]:=⟨λc b d=>fT e.hh e.hr,fU f,λc b d=>h _,cg⟩
 exact oT SJ [[1,2,3,4],[11],[5,6,7,8,9,10,11,12]] [7,6,5,4,3,2,1,0] (dT [0,2,4,8,10,12,13] λa=>dI (odd (cn 7 (odd a)))) g (G:=[[0],[],[0]]) (J:=[[],[],[.app (.UO 0) (.cells [0])]]) (I:=[0]) (R:=[.UO 0])
theorem Dj(e:fV s (cu d0 .rename))(f:s.xs.size<=1000000)(h:∀a,OK u (fi u (dn (gC s tb tt ts) (cu d0 .rename) a) ds msg)):
  OK u (fi u (gC s tb tt ts) (cu d0 .rename::ds) msg):=by
 have g:cq u [g5 u s.y (cE .rename) (cu d0 .rename).rb (cu d0 .rename).UP (cu d0 .rename).np (cu d0 .rename).lp (cu d0 .rename).r,mn s.xs,λc b d=>fi u (dn (gC s tb tt ts:PS) (cu d0 .rename) (ou b)) ds msg]:=⟨λc b d=>fT e.hh e.hr,fU f,λc b d=>h _,cg⟩
 exact oT SJ [[1,2,3,4],[11],[5,6,7,8,9,10,11,12]] [7,6,5,4,3,2,1,0] (dT [0,2,4,8,10,12,13] λa=>dI (odd (cn 7 (odd a)))) g (G:=[[0],[],[0]]) (J:=[[],[],[.app (.UO 0) (.cells [0])]]) (I:=[0]) (R:=[.UO 0])
end
section
def zl(c:PC)(a:cl)(b:Nat):PC:={c with field:= .none,value:= .bytes a b,message:= .bytes a b,U0:=false}
def HJ(b:WC)(a:PS)(c:cl)(d:Nat):Wy cK:=[⟨a.x.L,tQ b (zl a.x c d) a.ks,true⟩,⟨a.y.ga,ey a.y.g a.y.nm a.y.qn,false⟩,⟨a.y.x.L,kU b a.y.x a.y.ks,true⟩]
def Nr(u:WB)(a:PS)(b:cl)(c:Nat):Spec:=
 ⟨HI a.y.ga a.x.L,160,some a.x.L,⟨HJ (Pm u) a b c,[(a.y.g,iG u a.y.x.L)],λd _=>[tQ (Pm u) (zl a.x b c) a.ks,ey a.y.g a.y.nm a.y.qn,kU (Pm u) a.y.x a.y.ks],λ_ _=>[.finished],nn,nn,[],nn⟩,λ_ _=>.ok .next⟩
variable {a:PS}
theorem HK:OK u (Nr u a k c):=
 oT 0x132012213 [[1,2]] [2,1,0] (cJ []) ⟨λb e d=>tO,cg⟩ (Y:=[λb e d=>hy a.y.ga a.y.g a.y.nm a.y.qn (iG u a.y.x.L) (zc u a.y.x a.y.ks)]) (G:=[[0]]) (I:=[0])
def Rp(u:WB)(a:PS)(c:cl):Spec:=
 ⟨HI a.y.ga a.x.L,160,some a.x.L,⟨FZ (Pm u) a,[(a.y.g,fe u a.y.x.L)],λb _=>F0 (Pm u) a c b,λ_ _=>[.finished],nn,nn,[⟨a.xs,a.E⟩],λb _=>[⟨a.xs,a.E⟩]⟩,λ_ _=>.ok .next⟩
theorem HL{s:PS}{tb:cl}{tt ts:Nat}{msg:cl}(h:s.y.x.line= #[10])(e:0<=s.y.x.place)(f:s.y.x.place<=(s.y.x.T.size:Nat))(i:s.y.x.T.extract s.y.x.place.toNat s.y.x.T.size=msg)(j:s.y.x.T.size<=1000000):OK u (Rp u (gC s tb tt ts) msg):=
 oT 0x13201223310f0f09f1115f1112110015580af55f07fa07f0407f01101155552 [[1,2],[4,5,6]] [7,6,5,4,3,2,1,0] (dT [2] λd=>dI (cn 7 (odd d))) ⟨λb a c=>zj h e f i j,λb a c=>HK,cg⟩ (Y:=[λb a c=>ye s.y.ga s.y.g s.y.nm s.y.qn (fe u s.y.x.L) (iG u s.y.x.L) (CY u s.y.x s.y.ks msg) 0,λb a c=>Nr u (gC s tb tt ts:PS) msg (df (cF (a[0]?.getD default) 12))]) (G:=[[0],[0]]) (I:=[0]) (R:=[.UO 0])
def gd(a b:cl):Wy dm->cl->Int->Bool->Bool->Bool->Bool->Nat->Prop
 |[],j,i,_,_,_,_,_=>j= #[10]/\0<=i/\i<=(a.size:Nat)/\a.extract i.toNat a.size=b/\a.size<=1000000
 |d::g,j,i,k,e,f,h,c=>eQ j (cE d.kind) d.rb/\er a i (cE d.kind) d.rb d.UP d.np d.lp d.r/\c<100000/\(match d.kind with
  | .parent=>(k=true->ff d.r)/\gd a b g d.lp ((d.np:Int)+1) k e f h (c+1)
  | .UK=>e=false/\gd a b g d.lp ((d.np:Int)+1) false true f h (c+1)
  | .UL=>f=false/\gd a b g d.lp ((d.np:Int)+1) false e true h (c+1)
  | .encoding=>gd a b g d.lp ((d.np:Int)+1) false e f true (c+1)
  | .sig=>gd a b g d.lp ((d.np:Int)+1) false e f h (c+1)
  | .tag=>gd a b g d.lp ((d.np:Int)+1) false e f h (c+1)
  | .rename=>gd a b g d.lp ((d.np:Int)+1) false e f h (c+1)
  | .tree=>gd a b g d.lp ((d.np:Int)+1) false e f h (c+1))
structure Rq(s:PS)(T line:cl)(place:Int)(U0 au co en:Bool)(n:Nat):Prop where
 T:s.y.x.T=T
 line:s.y.x.line=line
 place:s.y.x.place=place
 U0:s.x.U0=U0
 au:au=false->s.x.UK= .none
 co:co=false->s.x.UL= .none
 en:(en=false->s.x.encoding= .none)/\(en=true->∃eb et,s.x.encoding= .bytes eb et)
 tree:∃tb tt,s.x.tree= .bytes tb tt
 sg:∃ts,s.x.sg= .bytes (cE .sig) ts
 ps:s.ps.length<=n
 xs:s.xs.size<=n
 UY:s.sg.length<=n
theorem jg(b:a.x.tree= .bytes k d)(e:a.x.sg= .bytes (cE .sig) c):gC a k d c=a:=by obtain⟨f,r,G,x,F,n,D,E,p,y,g,o⟩:=a;obtain⟨h,j,z,t,s,A,i,l,m,w,v,q,field,C⟩:=f;simp only at b e;subst b e;rfl
theorem Nt(b:a.x.UK= .none):{a with x:={a.x with UK:= .none}}=a:=by obtain⟨x,l,y,q,F,h,w,E,j,r,c,i⟩:=a;obtain⟨d,e,s,n,m,t,UK,f,g,p,o,k,field,v⟩:=x;simp only at b;subst b;rfl
theorem Nu(b:a.x.UL= .none):{a with x:={a.x with UL:= .none}}=a:=by obtain⟨x,l,y,q,F,h,w,E,j,r,c,i⟩:=a;obtain⟨d,f,s,n,m,t,e,UL,g,p,o,k,field,v⟩:=x;simp only at b;subst b;rfl
theorem F1{b:Wz}(c:a.x.encoding=b):{a with x:={a.x with encoding:=b}}=a:=by obtain⟨x,m,z,r,F,i,y,E,k,s,d,j⟩:=a;obtain⟨e,g,t,o,n,v,f,h,encoding,q,p,l,field,w⟩:=x;simp only at c;subst c;rfl
theorem F2{b:Bool}(c:a.x.U0=b):{a with x:={a.x with U0:=b}}=a:=by obtain⟨x,m,z,r,F,j,y,E,l,s,d,k⟩:=a;obtain⟨e,g,t,o,n,v,f,h,i,q,p,U0,field,w⟩:=x;simp only at c;subst c;rfl
theorem fW{a:dm}{b:Kd}(c:a.kind=b):cu a b=a:=by obtain⟨e,i,d,g,f,h⟩:=a;simp only at c;subst c;rfl
theorem gD{u:WB}{l k:cl}:∀(f:Wy dm) (b:PS) (z:cl) (A:Int) (y o p q:Bool) (n:Nat),Rq b l z A y o p q n->gd l k f z A y o p q n->OK u (fi u b f k)
 |[],b,z,A,y,o,p,q,n,a,D=>by
  obtain⟨L,M,N,O,Q⟩:=D;obtain⟨i,m,h⟩:=a.tree;obtain⟨j,g⟩:=a.sg;have:=HL (u:=u) (s:=b) (tb:=i) (tt:=m) (ts:=j) (msg:=k) (a.line.trans L) (by rw[a.place];exact M) (by rw[a.place,a.T];exact N) (by rw[a.place,a.T];exact O) (by rw[a.T];exact Q);rw[jg h g]at this;exact this
 |d::f,b,z,A,y,o,p,q,n,a,D=>by
  obtain⟨T,Y,R,e⟩:=D;obtain⟨i,m,h⟩:=a.tree;obtain⟨j,g⟩:=a.sg;have V:=a.ps;have P:=a.xs;have W:=a.UY;have t:∀G,d.kind=G->fV b (cu d G):=λG J=>by
   rw[fW J];exact⟨by rw[a.line];exact T,by rw[a.T,a.place];exact Y⟩
  cases c:d.kind with
  |UK=>
   rw[c]at e;obtain⟨C,e⟩:=e;have:=CZ (u:=u) (s:=b) (tb:=i) (tt:=m) (ts:=j) (d0:=d) (ds:=f) (msg:=k) (t _ c);rw[jg h g,Nt (a.au C),fW c]at this;refine this λs=>gD f _ d.lp ((d.np:Int)+1) false true p q (n+1) ?_ e
   unfold dn;rw[c];exact⟨a.T,rfl,rfl,rfl,λv=>by(cases v),a.co,a.en,⟨i,m,h⟩,⟨j,g⟩,by show b.ps.length<=_;omega,by show b.xs.size<=_;omega,by show b.sg.length<=_;omega⟩
  |UL=>
   rw[c]at e;obtain⟨C,e⟩:=e;have:=Db (u:=u) (s:=b) (tb:=i) (tt:=m) (ts:=j) (d0:=d) (ds:=f) (msg:=k) (t _ c);rw[jg h g,Nu (a.co C),fW c]at this;refine this λs=>gD f _ d.lp ((d.np:Int)+1) false o true q (n+1) ?_ e
   unfold dn;rw[c];exact⟨a.T,rfl,rfl,rfl,a.au,λv=>by(cases v),a.en,⟨i,m,h⟩,⟨j,g⟩,by show b.ps.length<=_;omega,by show b.xs.size<=_;omega,by show b.sg.length<=_;omega⟩
  |tree=>
   rw[c]at e;have:=De (u:=u) (s:=b) (tb:=i) (tt:=m) (ts:=j) (d0:=d) (ds:=f) (msg:=k) (t _ c);rw[jg h g,fW c]at this;refine this λs=>gD f _ d.lp ((d.np:Int)+1) false o p q (n+1) ?_ e
   unfold dn;rw[c];exact⟨a.T,rfl,rfl,rfl,a.au,a.co,a.en,⟨i,m,h⟩,⟨j,g⟩,by show b.ps.length<=_;omega,by show b.xs.size<=_;omega,by show b.sg.length<=_;omega⟩
  |sig=>
   rw[c]at e;have:=Dh (u:=u) (s:=b) (tb:=i) (tt:=m) (ts:=j) (d0:=d) (ds:=f) (msg:=k) (t _ c) (by omega);rw[jg h g,fW c]at this;refine this λs=>gD f _ d.lp ((d.np:Int)+1) false o p q (n+1) ?_ e
   unfold dn;rw[c];exact⟨a.T,rfl,rfl,rfl,a.au,a.co,a.en,⟨i,m,h⟩,⟨j,g⟩,by show b.ps.length<=_;omega,by show b.xs.size<=_;omega,by show(b.sg++[d.r]).length<=_;rw[List.length_append];show b.sg.length+1<=_;omega⟩
  |tag=>
   rw[c]at e;have:=Di (u:=u) (s:=b) (tb:=i) (tt:=m) (ts:=j) (d0:=d) (ds:=f) (msg:=k) (t _ c) (by omega);rw[jg h g,fW c]at this;refine this λs=>gD f _ d.lp ((d.np:Int)+1) false o p q (n+1) ?_ e
   unfold dn;rw[c];exact⟨a.T,rfl,rfl,rfl,a.au,a.co,a.en,⟨i,m,h⟩,⟨j,g⟩,by show b.ps.length<=_;omega,by show(b.xs++ #[_]).size<=_;rw[Array.size_append];show b.xs.size+1<=_;omega,by show b.sg.length<=_;omega⟩
  |rename=>
   rw[c]at e;have:=Dj (u:=u) (s:=b) (tb:=i) (tt:=m) (ts:=j) (d0:=d) (ds:=f) (msg:=k) (t _ c) (by omega);rw[jg h g,fW c]at this;refine this λs=>gD f _ d.lp ((d.np:Int)+1) false o p q (n+1) ?_ e
   unfold dn;rw[c];exact⟨a.T,rfl,rfl,rfl,a.au,a.co,a.en,⟨i,m,h⟩,⟨j,g⟩,by show b.ps.length<=_;omega,by show(b.xs++ #[_]).size<=_;rw[Array.size_append];show b.xs.size+1<=_;omega,by show b.sg.length<=_;omega⟩
  |encoding=>
   rw[c]at e;cases q with
   |false=>
    have w:=a.en.1 rfl;have:=Dc (u:=u) (s:=b) (tb:=i) (tt:=m) (ts:=j) (d0:=d) (ds:=f) (msg:=k) (t _ c);rw[jg h g,F1 w,fW c]at this;refine this λs=>gD f _ d.lp ((d.np:Int)+1) false o p true (n+1) ?_ e
    unfold dn;rw[c];exact⟨a.T,rfl,rfl,rfl,a.au,a.co,⟨λv=>(by cases v),λ_=>⟨d.r,s 3,by show(match nu b.x.encoding with|true=>Value.bytes d.r (s 3)|false=>b.x.encoding)=_;rw[w];rfl⟩⟩,⟨i,m,h⟩,⟨j,g⟩,by show b.ps.length<=_;omega,by show b.xs.size<=_;omega,by show b.sg.length<=_;omega⟩
   |true=>
    obtain⟨H,I,w⟩:=a.en.2 rfl;have:=Dd (u:=u) (s:=b) (tb:=i) (tt:=m) (ts:=j) (eb:=H) (et:=I) (d0:=d) (ds:=f) (msg:=k) (t _ c);rw[jg h g,F1 w,fW c]at this;refine this λs=>gD f _ d.lp ((d.np:Int)+1) false o p true (n+1) ?_ e
    unfold dn;rw[c];exact⟨a.T,rfl,rfl,rfl,a.au,a.co,⟨λv=>(by cases v),λ_=>⟨H,I,by show(match nu b.x.encoding with|true=>Value.bytes d.r (s 3)|false=>b.x.encoding)=_;rw[w];rfl⟩⟩,⟨i,m,h⟩,⟨j,g⟩,by show b.ps.length<=_;omega,by show b.xs.size<=_;omega,by show b.sg.length<=_;omega⟩
  |parent=>
   rw[c]at e;obtain⟨F,e⟩:=e;cases y with
   |false=>
    have:=Df (u:=u) (s:=b) (tb:=i) (tt:=m) (ts:=j) (d0:=d) (ds:=f) (msg:=k) (t _ c);rw[jg h g,F2 a.U0,fW c]at this;refine this λs=>gD f _ d.lp ((d.np:Int)+1) false o p q (n+1) ?_ e
    unfold dn;rw[c,a.U0];exact⟨a.T,rfl,rfl,a.U0,a.au,a.co,a.en,⟨i,m,h⟩,⟨j,g⟩,by show b.ps.length<=_;omega,by show b.xs.size<=_;omega,by show b.sg.length<=_;omega⟩
   |true=>
    have:=Dg (u:=u) (s:=b) (tb:=i) (tt:=m) (ts:=j) (d0:=d) (ds:=f) (msg:=k) (t _ c) (F rfl) (by omega);rw[jg h g,F2 a.U0,fW c]at this;refine this λs=>gD f _ d.lp ((d.np:Int)+1) true o p q (n+1) ?_ e
    unfold dn;rw[c,a.U0];exact⟨a.T,rfl,rfl,a.U0,a.au,a.co,a.en,⟨i,m,h⟩,⟨j,g⟩,by show(b.ps++[d.r]).length<=_;rw[List.length_append];show b.ps.length+1<=_;omega,by show b.xs.size<=_;omega,by show b.sg.length<=_;omega⟩
end
variable {Q:Wy dm}
section
structure P0 where
 L:Nat
 ks:AL
 ch:Wz
 (Wr lp le ls ep VG VL ga g:Nat)
 (nm qn:Wz)
 (L2 lc tc Va:Nat)
 bs:Wy cl
 F:AL
def F3(b:WC)(a:P0):gi:=ot [dx b "chunks" (a.ks 0) a.ch,dx b "signature_header" (a.ks 1) (.bytes (cE .sig) a.Wr),dx b "parents" (a.ks 2) (.ref a.lp),dx b "extra" (a.ks 3) (.ref a.le),dx b "tree" (a.ks 4) .none,dx b "author" (a.ks 5) .none,dx b "committer" (a.ks 6) .none,dx b "encoding" (a.ks 7) .none,dx b "message" (a.ks 8) .none,dx b "signatures" (a.ks 9) (.ref a.ls),dx b "in_parents" (a.ks 10) (.bool false)] 11
structure eY where
 line:cl
 n:Nat
 rb:cl
 UP:Wy cl
 np:Nat
 (lp r:cl)
def SK(d:AL)(b c:Nat):AL:=λa=>match a with
 |11=>b
 |12=>c
 |_=>d a
def HM(b c d e f g h t7 i j:Nat):AL:=λa=>match a with
 |0=>b
 |1=>c
 |2=>d
 |3=>e
 |4=>f
 |5=>g
 |6=>h
 |7=>t7
 |8=>i
 |_=>j
def s1(a:P0)(d:cl)(c:eY)(f:Nat)(h j e:Wz)(k:Nat)(i:ui)(b:AL):PS:=
 ⟨⟨a.L,a.ch,.bytes (cE .sig) a.Wr,a.lp,a.le,.bytes c.r (b 1),.none,.none,.none,.none,a.ls,true,.bytes (cE .tree) (b 0),.bytes c.r (b 1)⟩,SK a.ks (b 2) (b 3),⟨a.ga,a.g,a.nm,a.qn,Qq a.L2 a.lc d (cE .tree) c.rb c.np c.lp (cn 4 b),HM a.tc (b 15) (b 16) (b 17) (b 18) (b 19) (b 20) (b 21) (b 22) (b 23),f,h,j,e,k,i⟩,[],λ_=>0,a.ep,#[],[],a.VG,[],λ_=>0,a.VL⟩
def F4(b:WC)(a:P0)(c:Nat)(d:Wz)(f:Nat)(e:ui):Wy cK:=[⟨a.L,F3 b a,true⟩,⟨a.ga,ey a.g a.nm a.qn,false⟩,⟨a.L2,ot [dx b "chunks" a.tc (.ref a.lc)] 1,true⟩,⟨a.lc,cp a.bs a.F a.Va,false⟩,⟨393,ee c,false⟩,⟨c,dq d cZ f e,false⟩,⟨a.lp,cm #[] a.ep,false⟩,⟨a.le,cm #[] a.VG,false⟩,⟨a.ls,cm #[] a.VL,false⟩]
def h6(b:uk)(a:Nat):gi:=(b[a]?).getD default
def Nv(u:WB)(a:P0)(i:cl)(j:eY)(k:Wy dm)(l:cl)(d:Nat)(e:Wz)(h:Nat)(f:ui):Spec:=
 ⟨HI a.ga a.L,200,some a.L,⟨F4 (Pm u) a d e h f,[(a.g,.fresh (eo a.L2))],λb _=>let c:=kk (Pm u) (s1 a i j d (kV (b 0)) iF e h f (cn 1 b)) k l (cn 26 b);[h6 c 0,h6 c 1,h6 c 2,cp a.bs a.F a.Va,ee d,h6 c 4,h6 c 5,h6 c 6,h6 c 7],λ_ _=>[.finished],nn,nn,[],λb _=>tS (s1 a i j d (kV (b 0)) iF e h f (cn 1 b)) k (cn 26 b)⟩,λ_ _=>.ok .next⟩
def SM(a:uk):AL:=λb=>match b with
 |0=>df (cF (a[0]?.getD default) 11)
 |1=>df (cF (a[0]?.getD default) 12)
 |2=>dN (a[0]?.getD default) 11
 |3=>dN (a[0]?.getD default) 12
 |6=>hu (cF (a[2]?.getD default) 6)
 |9=>df (cF (a[2]?.getD default) 2)
 |10=>df (cF (a[2]?.getD default) 8)
 |11=>df (cF (a[2]?.getD default) 1)
 |12=>df (cF (a[2]?.getD default) 3)
 |13=>hu (cF (a[2]?.getD default) 4)
 |14=>df (cF (a[2]?.getD default) 9)
 |c=>dN (a[2]?.getD default) (c-14)
def q4:uh:=[8,16,2,7,9,0,0,4,0,0,10,12,14,16,18,20,22,24,26,28,30,32,34,36,38,0]
variable {P:eY} {a:P0}
theorem zm(j:dW a.bs k)(p:dA k 0 P.line P.n)(t:cG P.line #[32]=false)(o:eQ P.line (cE .tree) P.rb)(s:er k ((P.n:Int)+1) (cE .tree) P.rb P.UP P.np P.lp P.r)(x:ff P.r)(m:gd k l Q P.lp ((P.np:Int)+1) true false false false 0):
  OK u (Nv u a k P Q l c v d L):=by
 have w:cq u [λb e f=>ye a.ga a.g a.nm a.qn (.fresh (eo a.L2)) (fe u a.L2) (zg u a.L2 a.lc a.tc a.Va c v d L a.bs a.F k P.line (cE .tree) P.rb P.n P.UP P.np P.lp P.r) 0,λb e f=>rI P.r (tk b 0) (lq "invalid tree sha") (tk b 1),λb e f=>fi u (s1 a k P c (fdOf (e[3]?.getD default)).doc iF v d L (SM e)) Q l]:=⟨λb e f=>pW j p t o s,λb e f=>(by obtain⟨⟨v,z,q⟩,y⟩:=x;exact nj q y),λb e f=>gD Q _ P.lp ((P.np:Int)+1) true false false false 0 ⟨rfl,rfl,rfl,rfl,λ_=>rfl,λ_=>rfl,⟨λ_=>rfl,λi=>(by cases i)⟩,⟨_,_,rfl⟩,⟨_,rfl⟩,Nat.le_refl _,Nat.le_refl _,Nat.le_refl _⟩ m,cg⟩
 exact oT 0x13201224310f0f09f1110111112110121f411f30cf106f600116606016662 [[1,2,3,4,5],[],[5,6,7,4,10,11,12,13]] [8,7,6,5,4,3,2,1,0] (dT q4 λh=>dI (cn 1 (odd (cn 7 (odd h))))) w (G:=[[0],[],[0]]) (J:=[[],[],[.cells []]]) (I:=[0]) (R:=[.UO 0])
def zn(b:WC)(a:P0):Wy cK:=[⟨a.L,F3 b a,true⟩,⟨a.ga,ey a.g a.nm a.qn,false⟩,⟨a.L2,ot [dx b "chunks" a.tc (.ref a.lc)] 1,true⟩,⟨a.lc,cp a.bs a.F a.Va,false⟩,⟨393,fm,false⟩,⟨a.lp,cm #[] a.ep,false⟩,⟨a.le,cm #[] a.VG,false⟩,⟨a.ls,cm #[] a.VL,false⟩]
def iH(g b c d e f a h:Nat):ui:=[.str (lq "/claim/cut.py") g,.int 283 0,.int 1 0,.int 0 0,.int 0 0,.int 19 0,.ref b,.bool true,.int 181 0,.ref c,.none,.ref d,.ref e,.ref f,.int (a:Nat) 0,.int 283 0,.str (lq "/claim/cut.py") h]
def JU(d:P0)(b:cl)(c:eY)(a:AL):PS:=s1 d b c (a 26) (kV (a 0)) iF (jW (a 27)) (a 28) (iH (a 29) (a 30) (a 31) (a 32) (a 33) (a 34) (a 35) (a 36)) (cn 1 a)
def Nw(u:WB)(a:P0)(d:cl)(e:eY)(f:Wy dm)(h:cl):Spec:=
 ⟨HI a.ga a.L,200,some a.L,⟨zn (Pm u) a,[(a.g,.fresh (eo a.L2))],λb _=>let c:=kk (Pm u) (JU a d e b) f h (cn 37 b);[h6 c 0,h6 c 1,h6 c 2,cp a.bs a.F a.Va,ee (b 26),h6 c 5,h6 c 6,h6 c 7],λ_ _=>[.finished],λb _=>let c:=kk (Pm u) (JU a d e b) f h (cn 37 b);[⟨b 26,h6 c 4,false⟩],nn,[],λb _=>tS (JU a d e b) f (cn 37 b)⟩,λ_ _=>.ok .next⟩
def rN(a:uk):AL:=λb=>match b with
 |0=>df (ky a 4 2)
 |1=>hu (ky a 4 8)
 |2=>hu (ky a 4 11)
 |3=>hu (ky a 4 13)
 |4=>hu (ky a 4 14)
 |5=>hu (ky a 4 15)
 |6=>(match ky a 4 16 with| .int (.ofNat c) _=>c|_=>0)
 |_=>df (ky a 4 18)
theorem HN(h:dW a.bs k)(m:dA k 0 P.line P.n)(q:cG P.line #[32]=false)(j:eQ P.line (cE .tree) P.rb)(p:er k ((P.n:Int)+1) (cE .tree) P.rb P.UP P.np P.lp P.r)(t:ff P.r)(i:gd k l Q P.lp ((P.np:Int)+1) true false false false 0):
  OK u (Nw u a k P Q l):=by
 have s:cq u [λc b d=>ye a.ga a.g a.nm a.qn (.fresh (eo a.L2)) (fe u a.L2) (HE u a.L2 a.lc a.tc a.Va a.bs a.F k P.line (cE .tree) P.rb P.n P.UP P.np P.lp P.r) 0,λc b d=>rI P.r (tk c 0) (lq "invalid tree sha") (tk c 1),λc b d=>fi u (s1 a k P (hu (fdOf (b[3]?.getD default)).code) (fdOf (b[3]?.getD default)).doc iF (jW (df (ky b 4 0))) (df (ky b 4 1)) (iH (rN b 0) (rN b 1) (rN b 2) (rN b 3) (rN b 4) (rN b 5) (rN b 6) (rN b 7)) (SM b)) Q l]:=⟨λc b d=>HH h m q j p,λc b d=>(by obtain⟨⟨w,x,o⟩,v⟩:=t;exact nj o v),λc b d=>gD Q _ P.lp ((P.np:Int)+1) true false false false 0 ⟨rfl,rfl,rfl,rfl,λ_=>rfl,λ_=>rfl,⟨λ_=>rfl,λf=>(by cases f)⟩,⟨_,_,rfl⟩,⟨_,rfl⟩,Nat.le_refl _,Nat.le_refl _,Nat.le_refl _⟩ i,cg⟩
 exact oT 0x13201225310f0f09f1110111112110121f411f30cf106f700117707017772 [[1,2,3,4],[],[6,7,8,4,5,11,12,13]] [7,6,5,4,3,2,1,0,8] (dT [8,16,2,7,9,0,0,4,0,0,10,12,14,16,18,20,22,24,26,28,30,32,34,36,38,0,6,42,44,46,48,50,52,54,56,58,60] λe=>dI (cn 1 (odd (cn 7 (odd e))))) s (G:=[[0],[],[0]]) (J:=[[],[],[.cells []]]) (I:=[0]) (R:=[.UO 0])
end
variable {V:WA cl}
section
structure Sum where
 ps:Wy cl
 (au co en:WA cl)
 E:Wy dh
 sg:Wy cl
 U0:Bool
def mF(S:Sum)(a:dm):Sum:=match a.kind with
 | .parent=>match S.U0 with
  |true=>{S with ps:=S.ps++[a.r]}
  |false=>S
 | .UK=>{S with U0:=false,au:=some a.r}
 | .UL=>{S with U0:=false,co:=some a.r}
 | .encoding=>{S with U0:=false,en:=(match S.en with|none=>some a.r|some b=>some b)}
 | .sig=>{S with U0:=false,sg:=S.sg++[a.r]}
 | .tag=>{S with U0:=false,E:=S.E++[(cE .tag,a.r)]}
 | .rename=>{S with U0:=false,E:=S.E++[(cE .rename,a.r)]}
 | .tree=>{S with U0:=false}
def rO(S:Sum):Wy dm->Sum
 |[]=>S
 |d::a=>rO (mF S d) a
def tU(a:Wz):WA cl->Prop
 |none=>a= .none
 |some b=>∃c,a= .bytes b c
structure Nx(s:PS)(S:Sum):Prop where
 ps:s.ps=S.ps
 au:tU s.x.UK S.au
 co:tU s.x.UL S.co
 en:tU s.x.encoding S.en
 E:s.E=S.E
 sg:s.sg=S.sg
 U0:s.x.U0=S.U0
theorem zo{a:PS}{S:Sum}{b:dm}(l:Nx a S):Nx (dn a b y) (mF S b):=by
 obtain⟨d,g,h,c,e,f,k⟩:=l;unfold dn mF;cases o:b.kind with
 |parent=>
  cases j:a.x.U0 with
  |true=>
   have i:S.U0=true:=by rw[<-k];exact j
   simp only[i];exact⟨by show a.ps++[b.r]=_;rw[d],g,h,c,e,f,j⟩
  |false=>
   have i:S.U0=false:=by rw[<-k];exact j
   simp only[i];exact⟨d,g,h,c,e,f,j.trans i.symm⟩
 |UK=>exact⟨d,⟨_,rfl⟩,h,c,e,f,rfl⟩
 |UL=>exact⟨d,g,⟨_,rfl⟩,c,e,f,rfl⟩
 |encoding=>
  refine⟨d,g,h, ?_,e,f,rfl⟩;cases i:S.en with
  |none=>
   rw[i]at c;have c:a.x.encoding= .none:=c;show tU (match nu a.x.encoding with|true=>Value.bytes b.r (y 3)|false=>a.x.encoding) _
   rw[c];exact⟨_,rfl⟩
  |some n=>
   rw[i]at c;obtain⟨m,c⟩:=c;show tU (match nu a.x.encoding with|true=>Value.bytes b.r (y 3)|false=>a.x.encoding) _
   rw[c];exact⟨m,rfl⟩
 |sig=>exact⟨d,g,h,c,e,by show a.sg++[b.r]=_;rw[f],rfl⟩
 |tag=>exact⟨d,g,h,c,by show a.E++_=_;rw[e],f,rfl⟩
 |rename=>exact⟨d,g,h,c,by show a.E++_=_;rw[e],f,rfl⟩
 |tree=>exact⟨d,g,h,c,e,f,rfl⟩
theorem pX:∀(a:Wy dm) (b:PS) (S:Sum) (c:AL),Nx b S->Nx (eX b a c) (rO S a)
 |[],b,S,c,e=>e
 |d::a,b,S,c,e=>pX a _ _ _ (zo e)
structure Ny(s s':PS):Prop where
 L:s'.x.L=s.x.L
 ch:s'.x.ch=s.x.ch
 sg:s'.x.sg=s.x.sg
 lp:s'.x.lp=s.x.lp
 le:s'.x.le=s.x.le
 ls:s'.x.ls=s.x.ls
 tree:s'.x.tree=s.x.tree
 ks:s'.ks=s.ks
 a:s'.y.a=s.y.a
 tq:s'.y.tq=s.y.tq
 l:s'.y.l=s.y.l
variable {al:AL}
theorem xo{s:PS}{d:dm}:Ny s (dn s d al):=by
 unfold dn;cases b:d.kind with
 |parent=>cases a:s.x.U0<;>exact⟨rfl,rfl,rfl,rfl,rfl,rfl,rfl,rfl,rfl,rfl,rfl⟩
 |_=>exact⟨rfl,rfl,rfl,rfl,rfl,rfl,rfl,rfl,rfl,rfl,rfl⟩
theorem kX:∀(g:Wy dm) (f:PS) (e:AL),Ny f (eX f g e)
 |[],f,e=>⟨rfl,rfl,rfl,rfl,rfl,rfl,rfl,rfl,rfl,rfl,rfl⟩
 |d::g,f,e=>by
  have b:=xo (s:=f) (d:=d) (al:=e);have c:=kX g (dn f d e) (cn 7 e);exact⟨c.L.trans b.L,c.ch.trans b.ch,c.sg.trans b.sg,c.lp.trans b.lp,c.le.trans b.le,c.ls.trans b.ls,c.tree.trans b.tree,c.ks.trans b.ks,c.a.trans b.a,c.tq.trans b.tq,c.l.trans b.l⟩
def rP:Sum:=⟨[],none,none,none,[],[],true⟩
variable {l:ui} {tq cc:Nat} {doc pm a:Wz} {d:eY} {T:cl} {p:P0}
theorem zp:Nx (s1 p T d cc doc pm a tq l al) rP:=⟨rfl,rfl,rfl,rfl,rfl,rfl,rfl⟩
def iX(b:WA cl)(c:Nat):Wz:=match b with
 |none=>.none
 |some a=>.bytes a c
theorem tU.en(a:tU v V):∃b,v=iX V b:=by
 cases V with
 |none=>exact⟨0,a⟩
 |some c=>exact a
def rQ(f:WC)(b:P0)(h d e:cl)(g:WA cl)(c:cl)(a:AL):gi:=tQ f ⟨b.L,b.ch,.bytes (cE .sig) b.Wr,b.lp,b.le,.bytes h (a 4),.bytes d (a 1),.bytes e (a 2),iX g (a 3),.bytes c (a 0),b.ls,false,.none,.bytes c (a 0)⟩ (SK b.ks (a 5) (a 6))
theorem HO{P:WC}{ds:Wy dm}{al2:AL}{msg:cl}{t:Nat}(C:(rO rP ds).au=some k)(D:(rO rP ds).co=some m):∃e f g,∀z:AL,
  tQ P {(eX (s1 p T d cc doc pm a tq l al) ds al2).x with field:= .none,value:= .bytes msg t,message:= .bytes msg t,U0:=false} (eX (s1 p T d cc doc pm a tq l al) ds al2).ks=rQ P p d.r k m (rO rP ds).en msg (cons t (cons e (cons f (cons g (cons (al 1) (cons (al 2) (cons (al 3) z))))))):=by
 have c:=pX ds _ _ al2 (zp (p:=p) (T:=T) (d:=d) (cc:=cc) (doc:=doc) (pm:=pm) (a:=a) (tq:=tq) (l:=l) (al:=al));have b:=kX ds (s1 p T d cc doc pm a tq l al) al2;obtain⟨e,h⟩:∃t,(eX (s1 p T d cc doc pm a tq l al) ds al2).x.UK= .bytes k t:=by have:=c.au;rw[C]at this;exact this
 obtain⟨f,i⟩:∃t,(eX (s1 p T d cc doc pm a tq l al) ds al2).x.UL= .bytes m t:=by have:=c.co;rw[D]at this;exact this
 obtain⟨g,j⟩:=c.en.en;refine⟨e,f,g,λz=> ?_⟩
 unfold rQ;have n:=b.L;have o:=b.ch;have q:=b.sg;have s:=b.lp;have v:=b.le;have w:=b.ls;have y:=b.tree;have A:=b.ks;rw[A];generalize (eX (s1 p T d cc doc pm a tq l al) ds al2).x=X at*;obtain⟨G,I,Q,N,M,Y,H,J,L,message,O,U0,field,value⟩:=X;simp only at n o q s v w y h i j;subst n o q s v w y h i j;rfl
end
section
theorem SN{e f g:Type}(h:e->f->g){a b:e}{c d:f}(i:a=b)(j:c=d):h a c=h b d:=by rw[i,j]
def zq(a b c:Nat):AL:=λd=>match d with
 |0=>a
 |1=>b
 |_=>c
def ei(c a b:Nat):ug:=match c with
 |0=> #[]
 |1=> #[.ref a]
 |_=> #[.ref a,.ref b]
structure xp(xs:ug)(E:Wy dh):Prop where
 size:xs.size=E.length
 refs:∀v∈xs.toList,∃a,v= .ref a
theorem Dk{a:PS}{b:dm}(d:xp a.xs a.E):xp (dn a b y).xs (dn a b y).E:=by
 have e:xp (a.xs++ #[.ref (y 6)]) (a.E++[(cE b.kind,b.r)]):=⟨by rw[Array.size_append,List.length_append,d.size];rfl,λg c=>by
  rw[Array.toList_append,List.mem_append]at c;rcases c with c|c
  ·exact d.refs g c
  ·simp at c;exact⟨_,c⟩⟩
 unfold dn;cases f:b.kind with
 |parent=>cases h:a.x.U0<;>exact d
 |tag=>rw[f]at e;exact e
 |rename=>rw[f]at e;exact e
 |_=>exact d
theorem zr:∀(c:Wy dm) (a:PS) (b:AL),xp a.xs a.E->xp (eX a c b).xs (eX a c b).E
 |[],a,b,e=>e
 |d::c,a,b,e=>zr c _ _ (Dk e)
theorem Dl{E:Wy dh}(g:xp H E)(h:E.length<=2):∃c d,H=ei E.length c d:=by
 obtain⟨a,b⟩:=g;obtain⟨e⟩:=H
 match e,a,b with
 |[],a,b=>exact⟨0,0,by rw[<-a];rfl⟩
 |[x],a,b=>
  obtain⟨c,rfl⟩:=b x (.head _);exact⟨c,0,by rw[<-a];rfl⟩
 |[x,f],a,b=>
  obtain⟨c,rfl⟩:=b x (.head _);obtain⟨d,rfl⟩:=b f (.tail _ (.head _));exact⟨c,d,by rw[<-a];rfl⟩
 |x::f::i::e,a,b=>simp at a;omega
theorem Rr(b:A.length<=3):d3 A y=d3 A (zq (y 0) (y 1) (y 2)):=h5 _ _ _ λa c=>by
 match a with
 |0=>rfl
 |1=>rfl
 |2=>rfl
 |n+3=>omega
theorem Rs(b:A.length<=1):d3 A y=d3 A (λ_=>y 0):=h5 _ _ _ λa c=>by
 match a with
 |0=>rfl
 |n+1=>omega
structure kY(ds:Wy dm)(S:Sum)(A C:cl):Prop where
 sum:rO rP ds=S
 au:S.au=some A
 co:S.co=some C
 ps:S.ps.length<=3
 E:S.E.length<=2
 sg:S.sg.length<=1
variable {a:Wz}
theorem zs{P:WC}{p:P0}{T:cl}{d:eY}{cc:Nat}{doc pm:Wz}{tq:Nat}{l:ui}{al al2:AL}{msg:cl}{t:Nat}{S:Sum}(g:kY Q S m n):∃c:AL->AL,∀b:AL,
  (c b 0=t/\cn 16 (c b)=b)/\tQ P {(eX (s1 p T d cc doc pm a tq l al) Q al2).x with field:= .none,value:= .bytes msg t,message:= .bytes msg t,U0:=false} (eX (s1 p T d cc doc pm a tq l al) Q al2).ks=rQ P p d.r m n S.en msg (c b)/\
  (let e:=eX (s1 p T d cc doc pm a tq l al) Q al2;cp e.ps e.F e.ep=cp S.ps (zq (c b 7) (c b 8) (c b 9)) (c b 10)/\e.xs=ei S.E.length (c b 11) (c b 12)/\e.VG=c b 13/\cp e.sg e.G e.VL=cp S.sg (λ_=>c b 14) (c b 15)/\e.E=S.E):=by
 obtain⟨h,i,j,k,o,q⟩:=g;subst h;have f:=pX Q _ _ al2 (zp (p:=p) (T:=T) (d:=d) (cc:=cc) (doc:=doc) (pm:=pm) (a:=a) (tq:=tq) (l:=l) (al:=al));obtain⟨y,z,A,s⟩:=HO (P:=P) (p:=p) (T:=T) (d:=d) (ds:=Q) (cc:=cc) (doc:=doc) (pm:=pm) (a:=a) (tq:=tq) (l:=l) (al:=al) (al2:=al2) (msg:=msg) (t:=t) i j;obtain⟨C,D,w⟩:=Dl (zr Q (s1 p T d cc doc pm a tq l al) al2 ⟨rfl,λH v=>by cases v⟩) (by rw[f.E];exact o)
 refine⟨λb=>cons t (cons y (cons z (cons A (cons (al 1) (cons (al 2) (cons (al 3) (cons ((eX (s1 p T d cc doc pm a tq l al) Q al2).F 0) (cons ((eX (s1 p T d cc doc pm a tq l al) Q al2).F 1) (cons ((eX (s1 p T d cc doc pm a tq l al) Q al2).F 2) (cons (eX (s1 p T d cc doc pm a tq l al) Q al2).ep (cons C (cons D (cons (eX (s1 p T d cc doc pm a tq l al) Q al2).VG (cons ((eX (s1 p T d cc doc pm a tq l al) Q al2).G 0) (cons (eX (s1 p T d cc doc pm a tq l al) Q al2).VL b))))))))))))))),λb=>⟨⟨rfl,rfl⟩,s _, ?_, ?_,rfl, ?_,f.E⟩⟩
 ·show cm _ _=cm _ _;rw[Rr (by rw[f.ps];exact k),f.ps];rfl
 ·rw[w,f.E];rfl
 ·show cm _ _=cm _ _;rw[Rs (by rw[f.sg];exact q),f.sg];rfl
def tV(u:WB)(b:P0)(m:cl)(h:eY)(n:Wy dm)(j:cl)(d:Nat)(c:Wz)(f:Nat)(e:ui)(k l:cl)(S:Sum):Spec:=
 ⟨HI b.ga b.L,200,some b.L,⟨F4 (Pm u) b d c f e,[(b.g,.fresh (eo b.L2))],λa _=>let i:=kk (Pm u) (s1 b m h d (kV (cn 16 a 0)) iF c f e (cn 1 (cn 16 a))) n j (cn 26 (cn 16 a));[rQ (Pm u) b h.r k l S.en j a,h6 i 1,h6 i 2,cp b.bs b.F b.Va,ee d,dq c cZ f e,cp S.ps (zq (a 7) (a 8) (a 9)) (a 10),cm (ei S.E.length (a 11) (a 12)) (a 13),cp S.sg (λ_=>a 14) (a 15)],λ_ _=>[.finished],nn,nn,[],λa _=>[⟨ei S.E.length (a 11) (a 12),S.E⟩]⟩,λ_ _=>.ok .next⟩
variable {b:eY} {c:P0}
theorem vE{S:Sum}(v:OK u (Nv u c k b Q o d a e L))(w:kY Q S m n):OK u (tV u c k b Q o d a e L m n S):=by
 refine v.alt rfl rfl rfl rfl rfl rfl λf y=> ?_
 have g:=kX Q (s1 c k b d (kV (f 0)) iF a e L (cn 1 f)) (cn 26 f);obtain⟨i,x⟩:=zs (P:=(Pm u)) (p:=c) (T:=k) (d:=b) (cc:=d) (doc:=kV (f 0)) (pm:=iF) (a:=a) (tq:=e) (l:=L) (al:=cn 1 f) (al2:=cn 26 f) (msg:=o) (t:=hg Q (cn 26 f) 0) w;obtain⟨⟨z,s⟩,j,l,h,p,q,r⟩:=x f;refine⟨i f,y,rfl, ?_,rfl,rfl,rfl, ?_⟩
 ·show[_,_,_,_,_,_,_,_,_]=[_,_,_,_,_,_,_,_,_];rw[s];refine cY j (cY rfl (cY rfl (cY rfl (cY rfl (cY ?_ (cY l (cY ?_ (cY q rfl))))))))
  ·show dq _ _ _ _=_;rw[g.a,g.tq,g.l];rfl
  ·show cm _ _=cm _ _;rw[h,p]
 ·show[(⟨_,_⟩:jz)]=[⟨_,_⟩];rw[h,r]
def xq(u:WB)(b:P0)(i:cl)(c:eY)(j:Wy dm)(e:cl)(f h:cl)(S:Sum):Spec:=
 ⟨HI b.ga b.L,200,some b.L,⟨zn (Pm u) b,[(b.g,.fresh (eo b.L2))],λa _=>let d:=kk (Pm u) (JU b i c (cn 27 a)) j e (cn 37 (cn 27 a));[rQ (Pm u) b c.r f h S.en e a,h6 d 1,h6 d 2,cp b.bs b.F b.Va,ee (a 16),cp S.ps (zq (a 7) (a 8) (a 9)) (a 10),cm (ei S.E.length (a 11) (a 12)) (a 13),cp S.sg (λ_=>a 14) (a 15)],λ_ _=>[.finished],λa _=>[⟨a 16,dq (jW (a 17)) cZ (a 18) (iH (a 19) (a 20) (a 21) (a 22) (a 23) (a 24) (a 25) (a 26)),false⟩],nn,[],λa _=>[⟨ei S.E.length (a 11) (a 12),S.E⟩]⟩,λ_ _=>.ok .next⟩
theorem Dm{S:Sum}(y:OK u (Nw u c k b Q o))(z:kY Q S m n):OK u (xq u c k b Q o m n S):=by
 refine y.alt rfl rfl rfl rfl rfl rfl λd C=> ?_
 have h:=kX Q (JU c k b d) (cn 37 d);obtain⟨g,A⟩:=zs (P:=(Pm u)) (p:=c) (T:=k) (d:=b) (cc:=d 26) (doc:=kV (d 0)) (pm:=iF) (a:=jW (d 27)) (tq:=d 28) (l:=iH (d 29) (d 30) (d 31) (d 32) (d 33) (d 34) (d 35) (d 36)) (al:=cn 1 d) (al2:=cn 37 d) (msg:=o) (t:=hg Q (cn 37 d) 0) z;obtain⟨⟨D,x⟩,q,r,i,s,v,w⟩:=A (cons (d 26) (cons (d 27) (cons (d 28) (cons (d 29) (cons (d 30) (cons (d 31) (cons (d 32) (cons (d 33) (cons (d 34) (cons (d 35) (cons (d 36) d)))))))))));have e (f:Nat):g (cons (d 26) (cons (d 27) (cons (d 28) (cons (d 29) (cons (d 30) (cons (d 31) (cons (d 32) (cons (d 33) (cons (d 34) (cons (d 35) (cons (d 36) d))))))))))) (16+f)=cons (d 26) (cons (d 27) (cons (d 28) (cons (d 29) (cons (d 30) (cons (d 31) (cons (d 32) (cons (d 33) (cons (d 34) (cons (d 35) (cons (d 36) d)))))))))) f:=by
  rw[Nat.add_comm];exact congrFun x f
 have p:cn 27 (g (cons (d 26) (cons (d 27) (cons (d 28) (cons (d 29) (cons (d 30) (cons (d 31) (cons (d 32) (cons (d 33) (cons (d 34) (cons (d 35) (cons (d 36) d))))))))))))=d:=by
  funext f;have:=e (f+11);rw[show 16+(f+11)=f+27 by omega]at this;exact this
 refine⟨g (cons (d 26) (cons (d 27) (cons (d 28) (cons (d 29) (cons (d 30) (cons (d 31) (cons (d 32) (cons (d 33) (cons (d 34) (cons (d 35) (cons (d 36) d))))))))))),C,rfl, ?_,rfl, ?_,rfl, ?_⟩
 ·show[_,_,_,_,_,_,_,_]=[_,_,_,_,_,_,_,_];rw[p];refine cY q (cY rfl (cY rfl (cY rfl (cY ?_ (cY r (cY ?_ (cY v rfl)))))))
  ·rw[e 0];rfl
  ·show cm _ _=cm _ _;exact(SN cm i s)
 ·show[(⟨_,_,_⟩:cK)]=[⟨_,_,_⟩];have j:h6 (kk (Pm u) (JU c k b d) Q o (cn 37 d)) 4=dq (jW (d 27)) cZ (d 28) (iH (d 29) (d 30) (d 31) (d 32) (d 33) (d 34) (d 35) (d 36)):=by
   show dq _ _ _ _=_;rw[h.a,h.tq,h.l];rfl
  rw[j,e 0,e 1,e 2,e 3,e 4,e 5,e 6,e 7,e 8,e 9,e 10];rfl
 ·show[(⟨_,_⟩:jz)]=[⟨_,_⟩];exact cY (SN jz.mk i w) rfl
end
section
def F5(a:Nat):Wz:= .str (lq "_parse_message") a
def qH(c:WC)(b:Nat):Spec:=
 ⟨ul 398 [.ref b],12,none,⟨[],[],nn,nn,λa _=>[⟨a 0,ey (a 1) (F5 (a 3)) (F5 (a 4)),false⟩,⟨a 2,ot [dx c "chunks" (a 5) (.ref b)] 1,true⟩],λa _=>[(a 1,.fresh (eo (a 2)))],[],nn⟩,λa _=>uj (.ref (a 0))⟩
theorem gv:OK u (qH (Pm u) c):=
 oT 0x1000111 [] [1,0] (dT [5,2,0,3,4,1] λa=>dI a) trivial (Y:=[]) (I:=[0])
structure yf where
 person:cl
 (time zone:WA Int)
 neg:Bool
def gw(b:WA Int)(c:Nat):Wz:=match b with
 |none=>.none
 |some a=>.int a c
def Dn(a:yf)(c d b:Nat):gi:=eE #[.bytes a.person c,gw a.time d,.ref b]
def Do(a:yf)(b:Nat):gi:=eE #[gw a.zone b,.bool a.neg]
def Nz(c:cl)(d:Nat)(b:yf):Spec:=⟨ul 634 [.bytes c d],60,none,UM [] (λ_=>[]) (λa=>[(a 0,Dn b (a 2) (a 3) (a 1)),(a 1,Do b (a 4))]),λa _=>uj (.ref (a 0))⟩
def jN(a:cl)(c:yf):U:=λb e d=>Nz a (tk b 0) c
def h7(u:WB)(a:cl)(b:yf):Prop:=∀c,OK u (Nz a c b)
theorem pY{rest:cl}{n:Nat}{j:Fin 6}{z:Fin 7}(a:tL k l rest n j z):h7 u k ⟨l,some (pS j).2,some (iR z).2.1,(iR z).2.2⟩:=λb=>Ht a
def vF:WA cl->Wy cl
 |none=>[]
 |some a=>[a]
def hi:Code->Nat
 | .forLoop _ (.ref a) _ _ _=>a
 |_=>0
def Dp:Code->Nat
 | .forLoop _ _ _ _ a=>a.frame.getD 0
 |_=>0
def Rt(b c e f g h i t7 j k d:Nat):AL:=λa=>match a with
 |0=>b
 |1=>c
 |2=>e
 |3=>f
 |4=>g
 |5=>h
 |6=>i
 |7=>t7
 |8=>j
 |9=>k
 |_=>d
def pZ(c:Code)(d:uk)(b:AL)(e h g i:Nat)(f:cl):P0:=
 let a:=d[0]?.getD default
 ⟨Dp c,Rt (dN a 0) (dN a 1) (dN a 2) (dN a 3) (dN a 4) (dN a 5) (dN a 6) (dN a 7) (dN a 8) (dN a 9) (dN a 10),cF a 0,df (cF a 1),hu (cF a 2),hu (cF a 3),hu (cF a 9),eJ d e,eJ d (e+1),eJ d (e+2),hi c,b 1,F5 (b 3),F5 (b 4),b 2,h,b 5,g,[f],λ_=>i⟩
structure Rd where
 T:cl
 d:eY
 ds:Wy dm
 (msg A C:cl)
 ps:Wy cl
 en:WA cl
 E:Wy dh
 (fA fC:yf)
def h8(a:Rd)(b:WA cl):Sum:=⟨a.ps,some a.A,some a.C,a.en,a.E,vF b,false⟩
def NA(b:Rd)(c:WA cl)(a:AL):gi:=eE #[.bytes b.d.r (a 1),.ref (a 2),.ref (a 3),.ref (a 4),iX b.en (a 5),iX c (a 6),.bytes b.msg (a 7),.ref (a 8)]
def F6(b:Rd)(c:WA cl)(a:AL):Wy (Nat×gi):=[(a 0,NA b c a),(a 2,cp b.ps (zq (a 9) (a 10) (a 11)) (a 12)),(a 8,cm (ei b.E.length (a 13) (a 14)) (a 15)),(a 3,Dn b.fA (a 17) (a 18) (a 16)),(a 16,Do b.fA (a 19)),(a 4,Dn b.fC (a 21) (a 22) (a 20)),(a 20,Do b.fC (a 23))]
def xr(b:Rd)(j:WA cl)(g e h c:Nat)(d:Wz)(i:Nat)(f:ui):Spec:=
 ⟨ul 649 [.ref g],215,none,⟨pl [(g,cp [b.T] (λ_=>h) e),(393,ee c),(c,dq d cZ i f)],[],λ_ _=>[cp [b.T] (λ_=>h) e,ee c,dq d cZ i f],nn,λa _=>pl (F6 b j a),nn,[],λa _=>[⟨ei b.E.length (a 13) (a 14),b.E⟩]⟩,λa _=>uj (.ref (a 0))⟩
structure d6(u:WB)(x:Rd)(sg:WA cl):Prop where
 ch:dW [x.T] x.T
 line:dA x.T 0 x.d.line x.d.n
 sp:cG x.d.line #[32]=false
 Vr:eQ x.d.line (cE .tree) x.d.rb
 row:er x.T ((x.d.n:Int)+1) (cE .tree) x.d.rb x.d.UP x.d.np x.d.lp x.d.r
 hex:ff x.d.r
 VP:gd x.T x.msg x.ds x.d.lp ((x.d.np:Int)+1) true false false false 0
 sum:kY x.ds (h8 x sg) x.A x.C
 iA:h7 u x.A x.fA
 iC:h7 u x.C x.fC
 UY:∀s,sg=some s->eI #[10] [s]=s/\s.size<=1000000
variable {b:P0} {a:Rd}
theorem d6.hk(c:d6 u a V)(e:dW b.bs a.T):OK u (tV u b a.T a.d a.ds a.msg g v h L a.A a.C (h8 a V)):=vE (zm e c.line c.sp c.Vr c.row c.hex c.VP) c.sum
theorem d6.gk(c:d6 u a V)(e:dW b.bs a.T):OK u (xq u b a.T a.d a.ds a.msg a.A a.C (h8 a V)):=Dm (HN e c.line c.sp c.Vr c.row c.hex c.VP) c.sum
theorem kZ{a:Wy AL->AL}(e:eI #[10] [k]=k)(f:k.size<=1000000):∀b d c,OK u (hf #[10] [k] k a b d c):=λb d c=>h3 (by simp) e (by omega) (by simp;omega)
def HP(c:Rd)(b:WA cl)(a:AL):Wy (Nat×gi):=F6 c b a++[(a 24,dq (jW (a 25)) cZ (a 26) (iH (a 27) (a 28) (a 29) (a 30) (a 31) (a 32) (a 33) (a 34)))]
def xt(b:Rd)(f:WA cl)(d c e:Nat):Spec:=
 ⟨ul 649 [.ref d],215,none,⟨pl [(d,cp [b.T] (λ_=>e) c),(393,fm)],[],λa _=>[cp [b.T] (λ_=>e) c,ee (a 24)],nn,λa _=>pl (HP b f a),nn,[],λa _=>[⟨ei b.E.length (a 13) (a 14),b.E⟩]⟩,λa _=>uj (.ref (a 0))⟩
def SO:Nat:=0x1000422f0220700f30444404011101111100888880801a0a01cc9901901919cc0
def Q4:uh:=[75,33,4,31,35,29,0,17,6,45,49,53,57,61,65,69,39,47,55,63,51,67,83,99]
theorem zt{c e f g:Nat}{v:Wz}{h:Nat}{L:ui}(k:d6 u ({a with en:=none}:Rd) none):OK u (xr ({a with en:=none}:Rd) none c e f g v h L):=by
 have l:cq u [λb j i=>qH (Pm u) c,λb j i=>tV u (pZ b j (cH i 0) 6 c e f a.T) a.T a.d a.ds a.msg g v h L a.A a.C (h8 ({a with en:=none}:Rd) none),jN a.A a.fA,jN a.C a.fC]:=⟨λb j i=>gv,λb j i=>k.hk k.ch,λb j i=>k.iA _,λb j i=>k.iC _,cg⟩
 exact oT SO [[],[5,0,1,6,7,8,4,3,2],[],[]] [2,1,0,15,4,5,12,11,14,13] (cJ Q4) l (G:=[[],[0],[],[]]) (R:=[.UO 0])
def SP:Nat:=0x1000422f0220700f30444404011101111100888880801a0a01cc9901901919c012cc0
def Q5:uh:=[107,33,4,31,35,29,91,17,6,45,49,53,57,61,65,69,39,47,55,63,51,67,83,99]
theorem zu{c e f g:Nat}{v:Wz}{h:Nat}{L:ui}(j:d6 u ({a with en:=none}:Rd) (some k)):OK u (xr ({a with en:=none}:Rd) (some k) c e f g v h L):=by
 have m:cq u [λi l b=>qH (Pm u) c,λi l b=>tV u (pZ i l (cH b 0) 6 c e f a.T) a.T a.d a.ds a.msg g v h L a.A a.C (h8 ({a with en:=none}:Rd) (some k)),jN a.A a.fA,jN a.C a.fC,hf #[10] [k] k λb=>λ_=>cH b 2 14]:=⟨λi l b=>gv,λi l b=>j.hk j.ch,λi l b=>j.iA _,λi l b=>j.iC _,kZ (j.UY _ rfl).1 (j.UY _ rfl).2,cg⟩
 exact oT SP [[],[5,0,1,6,7,8,4,3,2],[],[],[8]] [2,1,0,15,4,5,12,11,14,13] (cJ Q5) m (G:=[[],[0],[],[],[]]) (R:=[.UO 0])
theorem zv{c e f g:Nat}{v:Wz}{h:Nat}{L:ui}(k:d6 u ({a with en:=some l}:Rd) none):OK u (xr ({a with en:=some l}:Rd) none c e f g v h L):=by
 have m:cq u [λb j i=>qH (Pm u) c,λb j i=>tV u (pZ b j (cH i 0) 6 c e f a.T) a.T a.d a.ds a.msg g v h L a.A a.C (h8 ({a with en:=some l}:Rd) none),jN a.A a.fA,jN a.C a.fC]:=⟨λb j i=>gv,λb j i=>k.hk k.ch,λb j i=>k.iA _,λb j i=>k.iC _,cg⟩
 exact oT SO [[],[5,0,1,6,7,8,4,3,2],[],[]] [2,1,0,15,4,5,12,11,14,13] (cJ Q4) m (G:=[[],[0],[],[]]) (R:=[.UO 0])
theorem zw{c e f g:Nat}{v:Wz}{h:Nat}{L:ui}(j:d6 u ({a with en:=some l}:Rd) (some k)):OK u (xr ({a with en:=some l}:Rd) (some k) c e f g v h L):=by
 have n:cq u [λi m b=>qH (Pm u) c,λi m b=>tV u (pZ i m (cH b 0) 6 c e f a.T) a.T a.d a.ds a.msg g v h L a.A a.C (h8 ({a with en:=some l}:Rd) (some k)),jN a.A a.fA,jN a.C a.fC,hf #[10] [k] k λb=>λ_=>cH b 2 14]:=⟨λi m b=>gv,λi m b=>j.hk j.ch,λi m b=>j.iA _,λi m b=>j.iC _,kZ (j.UY _ rfl).1 (j.UY _ rfl).2,cg⟩
 exact oT SP [[],[5,0,1,6,7,8,4,3,2],[],[],[8]] [2,1,0,15,4,5,12,11,14,13] (cJ Q5) n (G:=[[],[0],[],[],[]]) (R:=[.UO 0])
def SQ:Nat:=0x1000422f0220700f30444404011101111100999990901b0b010dd0ddaa01a01a1a0dd0dd0
def Q6:uh:=[75,33,4,31,35,29,0,17,6,45,49,53,57,61,65,69,39,47,55,63,51,67,83,99,81,85,89,93,97,101,105,109,113,117,121]
theorem zx{c e f:Nat}(i:d6 u ({a with en:=none}:Rd) none):OK u (xt ({a with en:=none}:Rd) none c e f):=by
 have j:cq u [λb h g=>qH (Pm u) c,λb h g=>xq u (pZ b h (cH g 0) 5 c e f a.T) a.T a.d a.ds a.msg a.A a.C (h8 ({a with en:=none}:Rd) none),jN a.A a.fA,jN a.C a.fC]:=⟨λb h g=>gv,λb h g=>i.gk i.ch,λb h g=>i.iA _,λb h g=>i.iC _,cg⟩
 exact oT SQ [[],[5,0,1,6,7,4,3,2],[],[]] [1,0,15,3,4,12,11,14,13,8] (cJ Q6) j (G:=[[],[0],[],[]]) (R:=[.UO 0])
def SR:Nat:=0x1000422f0220700f30444404011101111100999990901b0b010dd0ddaa01a01a1a0dd0120dd0dd0
def Q7:uh:=[107,33,4,31,35,29,91,17,6,45,49,53,57,61,65,69,39,47,55,63,51,67,83,99,81,85,89,93,97,101,105,109,113,117,121]
theorem zy{c e f:Nat}(h:d6 u ({a with en:=none}:Rd) (some k)):OK u (xt ({a with en:=none}:Rd) (some k) c e f):=by
 have j:cq u [λg i b=>qH (Pm u) c,λg i b=>xq u (pZ g i (cH b 0) 5 c e f a.T) a.T a.d a.ds a.msg a.A a.C (h8 ({a with en:=none}:Rd) (some k)),jN a.A a.fA,jN a.C a.fC,hf #[10] [k] k λb=>λ_=>cH b 2 14]:=⟨λg i b=>gv,λg i b=>h.gk h.ch,λg i b=>h.iA _,λg i b=>h.iC _,kZ (h.UY _ rfl).1 (h.UY _ rfl).2,cg⟩
 exact oT SR [[],[5,0,1,6,7,4,3,2],[],[],[9]] [1,0,15,3,4,12,11,14,13,8] (cJ Q7) j (G:=[[],[0],[],[],[]]) (R:=[.UO 0])
theorem Ww{c e f:Nat}(i:d6 u ({a with en:=some l}:Rd) none):OK u (xt ({a with en:=some l}:Rd) none c e f):=by
 have j:cq u [λb h g=>qH (Pm u) c,λb h g=>xq u (pZ b h (cH g 0) 5 c e f a.T) a.T a.d a.ds a.msg a.A a.C (h8 ({a with en:=some l}:Rd) none),jN a.A a.fA,jN a.C a.fC]:=⟨λb h g=>gv,λb h g=>i.gk i.ch,λb h g=>i.iA _,λb h g=>i.iC _,cg⟩
 exact oT SQ [[],[5,0,1,6,7,4,3,2],[],[]] [1,0,15,3,4,12,11,14,13,8] (cJ Q6) j (G:=[[],[0],[],[]]) (R:=[.UO 0])
theorem zC{c e f:Nat}(h:d6 u ({a with en:=some l}:Rd) (some k)):OK u (xt ({a with en:=some l}:Rd) (some k) c e f):=by
 have j:cq u [λg i b=>qH (Pm u) c,λg i b=>xq u (pZ g i (cH b 0) 5 c e f a.T) a.T a.d a.ds a.msg a.A a.C (h8 ({a with en:=some l}:Rd) (some k)),jN a.A a.fA,jN a.C a.fC,hf #[10] [k] k λb=>λ_=>cH b 2 14]:=⟨λg i b=>gv,λg i b=>h.gk h.ch,λg i b=>h.iA _,λg i b=>h.iC _,kZ (h.UY _ rfl).1 (h.UY _ rfl).2,cg⟩
 exact oT SR [[],[5,0,1,6,7,4,3,2],[],[],[9]] [1,0,15,3,4,12,11,14,13,8] (cJ Q7) j (G:=[[],[0],[],[],[]]) (R:=[.UO 0])
theorem mG(b:a.en=V):{a with en:=V}=a:=by subst b;rfl
theorem HQ(b:d6 u a V):OK u (xr a V c e f g v h L):=by
 cases d:a.en with
 |none=>
  rw[<-mG d]at b|-;cases V with
  |none=>exact zt b
  |some i=>exact zu b
 |some j=>
  rw[<-mG d]at b|-;cases V with
  |none=>exact zv b
  |some i=>exact zw b
theorem HR(b:d6 u a V):OK u (xt a V c e f):=by
 cases d:a.en with
 |none=>
  rw[<-mG d]at b|-;cases V with
  |none=>exact zx b
  |some g=>exact zy b
 |some h=>
  rw[<-mG d]at b|-;cases V with
  |none=>exact Ww b
  |some g=>exact zC b
end
section
open PySem.Calls
def xu(d:String)(b c:Wz):Spec:=⟨.builtin d ⟨[b,c],[]⟩,4,none,⟨[],[],nn,nn,λa _=>[⟨a 0,pz b (a 1),false⟩,⟨a 1,kD c,false⟩],nn,[],nn⟩,λa _=>uj (.ref (a 0))⟩
variable {a:Nat->WA gi} {c:WG} {b:WJ}
theorem rR{d:String}
 (o:∀(g:WK) (R:WH->WF->Prop) (e:WF),gq a e.heap->(R (.ok (.ret (.ref (e.heap.objs.size+1)))) {e with heap:=(e.heap.push (kD v)).push (pz x e.heap.objs.size)})->codeAny (model b c) g (.builtin d ⟨[x,v],[]⟩) R e):ct b c a (xu d x v):=by
 intro g R e s p n m q h;refine o g R e n ?_
 let i:AL:=cons (e.heap.objs.size+1) λ_=>e.heap.objs.size
 refine h i (λ_=> #[]) _ ?_
 have k:=m1 (K:=a) (pre:=[]) (o:=kD v) (fs:=cC g) (s:=e) (s1:={e with heap:=e.heap.push (kD v)}) (sl:=λ_=> #[]) ⟨λj f=>(by cases f),List.nodup_nil,λj f=>(by cases f),List.nodup_nil,λj f=>(by cases f)⟩ m rfl ⟨e.toks,rfl⟩
 exact gO (E':=(xu d x v).UM) (al':=i) (c:=⟨e.heap.objs.size+1,pz x e.heap.objs.size,false⟩) k rfl rfl rfl rfl rfl rfl (by show _=(e.heap.push (kD v)).objs.size;rw[Heap.size_push]) rfl rfl rfl λl r h=>by
  show l<(e.heap.push (kD v)).objs.size;rw[Heap.size_push];exact Nat.lt_succ_of_lt (Heap.lt_size h)
theorem Dq:ct b c a (xu "ValueError.__new__" (.type "ValueError") v):=rR λf R e g d=>by
 obtain⟨j,i,h,tk,k⟩:=e;exact codeAny_exc_new F.excCall_ValueError.toExcNewFacts d
theorem Dr:OK u (xu "Exception.__new__" (.ref 44) v):=rR λc R d a b=>rA a b
def zD:TU:=λa _ _=>xu "ValueError.__new__" (.type "ValueError") (((lW a)[1]?).getD .none)
def hE:TU:=λa _ _=>xu "Exception.__new__" (.ref 44) (((lW a)[1]?).getD .none)
theorem rS:∀a c b,OK u (zD a c b):=λa c b=>Dq
theorem es:∀a c b,OK u (hE a c b):=λa c b=>Dr
end
def xv:cl:= #[74,111,32,49,50,32,43,48,48,48,48]
def T9(b:Nat):Spec:=⟨ul 634 [.bytes xv b],60,none,UM [] (λ_=>[]) (λa=>[(a 0,Dn ⟨xv,none,none,false⟩ b 0 (a 1)),(a 1,Do ⟨xv,none,none,false⟩ 0)]),λa _=>uj (.ref (a 0))⟩
theorem NB:h7 u xv ⟨xv,none,none,false⟩:=λb=>by
 have c:OK u (T9 b):=by
  exact oT 0x1000111012010110002110300203211400 [] [5,4] (cJ [9,8]) trivial (Y:=[])
 exact c.alt rfl rfl rfl rfl rfl rfl λa d=>⟨cons (a 0) (cons (a 1) (cons b a)),d,rfl,rfl,rfl,rfl,rfl,rfl⟩
def Qr(b:Wz)(c a:Nat):gi:=⟨b,none,.fields #[.ref c,.ref a,.none,.none,.bool false,.none],#[]⟩
def SU(b:Wz)(a:Nat)(c:ui):gi:=⟨.type "traceback",none,.fields (b:: .ref a:: .none:: .none:: .none::c).toArray,#[]⟩
def NC(b c:Wz)(a:AL)(d:SL):Wy cK:=[⟨a 0,Qr b (a 1) (a 2),false⟩,⟨a 2,SU c (a 3) (restOf (d 0)),false⟩]
def F7(c:Code)(e:Nat)(b:Wy (Nat×gi))(d:Wz)(f:AL->Wz):Spec:=⟨c,e,none,⟨pl b,[],λ_ _=>b.map (·.2),nn,λa g=>NC d (f a) a g,nn,[],nn⟩,λa _=>.error (.ref (a 0))⟩
def F8(a:Nat):Spec:=F7 (.call (.ref 146) ⟨[.int 103 a],[]⟩) 20 [] (.type "ValueError") λ_=>.none
theorem Ds:OK u (F8 a):=
 oT 0x111cf100a06f102f110001101211011110300f21311 [[]] [2,4] (cJ [9,10,12,0]) ⟨rS,cg⟩ (Y:=[zD]) (Z:=g4 [6])
def SV(a:Nat):Spec:=F7 (.call (.ref 207) ⟨[.int 9223372036854775808 a],[]⟩) 20 [] (.ref 44) λ_=>.none
theorem HS:OK u (SV a):=
 oT 0x140cf100205f11209f30ff30af02101100f0110101022222022021311 [[]] [2,4] (cJ [7,8,10,0]) ⟨es,cg⟩ (Y:=[hE]) (Z:=g4 [4])
section
def p3(c d:Wz)(b:Nat)(a:AL)(e:SL):Wy cK:=[⟨a 0,Qr c (a 1) (a 2),false⟩,⟨a 2,yr d b (restOf (e 0)),false⟩]
def p4(d:WC)(c:Int)(b:Nat)(g:ug)(e:cl)(f h:Fin 16)(i:Nat)(a:AL):uk:=[fS (c+2*b+2) 0 2,cm (kS g b (yd f h) (cn 8 a)) (a 7),dP (.bytes e i),kR d (some (.int (c+2*b) (a 5))) (a 6)]
def zE(c:WC)(i f m j b o:Nat)(n:Int)(k:Nat)(g:ug)(d:cl)(e h:Fin 16)(l:Nat)(q:WA Wz)(r:Nat):Spec:=
 ⟨CN i f m j b,60,some b,⟨pl (ma c i f m j o n (k+1) g d e h l q r),[],λa _=>p4 c n k g d e h l a,nn,λa p=>p3 (.type "ValueError") (.ref (a 4)) b a p,nn,[],nn⟩,λa _=>.error (.ref (a 0))⟩
def ND(d:WC)(i f l j b h:Nat)(c:Int)(g:ug)(e:cl)(m n:Fin 16)(k:Nat)(q:WA Wz)(r:Nat)(o:AL->Nat):Spec:=
 ⟨CN i f l j b,60,some b,⟨pl (ma d i f l j h c 1 g e m n k q r),[],λa _=>[fS (c+2) 0 2,cm g h,dP (.bytes e k),kR d (some (.int c (a 5))) (o a)],nn,λa p=>p3 (.type "ValueError") (.ref (a 4)) b a p,nn,[],nn⟩,λa _=>.error (.ref (a 0))⟩
def NE(i:WC)(g j l k h:Nat)(c:Int)(d:cl)(a:Fin 16):Wy U:=[λb f e=>yP g c (1:Nat) 2 (c+2) (0:Nat),oV d c (rD a),λb f e=>xl a (tk b 0),mulR (a.val:Nat) 16 ((a.val*16:Nat):Int),oV d (c+1) 103,λb f e=>F8 (tk b 0)]
def jh(c:cl)(d e:Fin 16)(b:Int)(a:Nat):Prop:=gV c d e b a/\b+2*a+2<1000000/\c[b.toNat+2*a]?=some (dM d)/\c[b.toNat+2*a+1]?=some 103
def SW:Nat:=0x13101124403430df20340110120101
variable {t1 tt it acc tx loc L ep:Nat} {b:WA Wz} {a:Fin 16}
theorem HT{as:ug}(n:b=none\/∃g p,b=some (.int g p))(m:jh k T a q 0):∃o,OK u (ND (Pm u) it acc tx loc L ep q as k T a tt b t1 o):=by
 obtain⟨⟨i,r,s⟩,t,j,l⟩:=m;have f:cq u (NE (Pm u) it acc tx loc L q k T):=⟨λc e d=>tE (by omega) rfl (by omega),λc e d=>iu i (by omega) (by simpa using j),λc e d=>nh T,pL (.of_right (by decide+kernel)) (by simp),λc e d=>iu (c:=103) (by omega) (by omega) (by
  have:(q+1).toNat=q.toNat+1:=by omega
  rw[this];simpa using l),λc e d=>Ds,cg⟩
 rcases n with rfl|⟨g,v,rfl⟩
 ·exact⟨λh=>h 6,oT SW [[0],[],[],[],[],[]] [3,2,1,0,5,6] (cJ [73,137,105,0,201,0,1]) f (Z:=g4 [63])⟩
 ·exact⟨λ_=>t1,oT SW [[0],[],[],[],[],[]] [3,2,1,0,5,6] (cJ [73,137,105,0,201,0]) f (Z:=g4 [63])⟩
def NF(f:WC)(j h n k e:Nat)(d:Int)(l:Nat)(i:ug)(g:cl)(b c:Fin 16)(m:Nat):U:=λo a p=>
 zE f j h n k e (eJ a 1) (d+2) l (i.push (.int (yd b c) (df (l8 a 4 1)))) g b c m (some (.int d (CL (a[3]?.getD default) 0))) (dN (a[3]?.getD default) 0)
def NG(e:WC)(i g m j b o:Nat)(n:Int)(k:Nat)(h:ug)(f:cl)(c d:Fin 16)(l:Nat)(q:WA Wz)(r:Nat):Spec:=
 ⟨CN i g m j b,60,some b,⟨pl (ma e i g m j o n (k+2) h f c d l q r),[],λa _=>p4 e (n+2) k (h.push (.int (yd c d) (a 0))) f c d l (cn 1 a),nn,λa p=>p3 (.type "ValueError") (.ref (cn 1 a 4)) b (cn 1 a) p,nn,[],nn⟩,λa _=>.error (.ref (cn 1 a 0))⟩
def NH(l:WC)(i m p n k:Nat)(b:Int)(f:Nat)(g:ug)(d:cl)(a e:Fin 16)(o:Nat):Wy U:=[λc j h=>yP i b (f+2:Nat) 2 (b+2) (f+1:Nat),oV d b (rD a),λc j h=>xl a (tk c 0),mulR (a.val:Nat) 16 ((a.val*16:Nat):Int),oV d (b+1) (rD e),λc j h=>xl e (tk c 0),CJ g,NF l i m p n k b f g d a e o]
theorem HU(v:b=none\/∃g j,b=some (.int g j))(s:jh k T a q (c+1))(t:H.size<=1000000)
 (w:∀i x m g,(i=none\/∃y j,i=some (.int y j))->OK u (zE (Pm u) it acc tx loc L m (q+2) c (H.push g) k T a tt i x)):OK u (NG (Pm u) it acc tx loc L ep q c H k T a tt b t1):=by
 obtain⟨⟨n,z,o⟩,A,C,D⟩:=s;obtain⟨p,r⟩:=o 0 (by omega);have l:cq u (NH (Pm u) it acc tx loc L q c H k T a tt):=⟨λd f e=>tE (by omega) rfl (by omega),λd f e=>iu n (by omega) (by simpa using p),λd f e=>nh T,pL (.of_right (by decide+kernel)) (by simp),λd f e=>iu (by omega) (by omega) (by
  have:(q+1).toNat=q.toNat+1:=by omega
  rw[this];simpa using r),λd f e=>nh a,λd f e=>lC t,λd f e=>w _ _ _ _ (.inr ⟨_,_,rfl⟩),cg⟩
 rcases v with rfl|⟨g,G,rfl⟩
 ·exact oT q6 [[0],[],[],[],[],[],[1],[0,1,2,3]] [3,2,1,0,5,4] (dT [105] λh=>dI (odd (cn 1 (odd (odd (cn 2 (odd (cn 1 (odd (odd (cn 1 (odd h)))))))))))) l (Z:=g4 [127])
 ·exact oT q6 [[0],[],[],[],[],[],[1],[0,1,2,3]] [3,2,1,0,5,4] (dT [105] λh=>dI (odd (cn 1 (odd (odd (cn 2 (odd (cn 1 (odd (odd (cn 1 (odd h)))))))))))) l (Z:=g4 [127])
theorem vG{u:WB}{e d h f c:Nat}{k:cl}{T a:Fin 16}{g:Nat}:∀(m:Nat) (l:Nat) (i:Int) (j:ug) (n:WA Wz) (o:Nat),(n=none\/∃v H,n=some (.int v H))->jh k T a i m->j.size+m<=1000000->
  OK u (zE (Pm u) e d h f c l i m j k T a g n o)
 |0,l,i,j,n,o,r,p,C=>by
  obtain⟨D,q⟩:=HT (u:=u) (it:=e) (acc:=d) (tx:=h) (loc:=f) (L:=c) (ep:=l) (as:=j) (tt:=g) (t1:=o) r p;refine q.alt rfl rfl rfl rfl rfl rfl λb t=>⟨(cons (b 0) (cons (b 1) (cons (b 2) (cons (b 3) (cons (b 4) (cons (b 5) (cons (D b) (cons (l) b)))))))),t,rfl, ?_,rfl,rfl,rfl,rfl⟩
  show[_,_,_,_]=[_,_,_,_];refine cY ?_ (cY ?_ (cY rfl (cY ?_ rfl)))
  ·rw[show i+2*((0:Nat):Int)+2=i+2 by omega]
  ·show cm _ _=cm _ _;unfold kS;simp[oh];rfl
  ·rw[show i+2*((0:Nat):Int)=i by omega];rfl
 |m+1,l,i,j,n,o,r,p,C=>by
  have q:=HU (u:=u) (it:=e) (acc:=d) (tx:=h) (loc:=f) (L:=c) (ep:=l) (tt:=g) (t1:=o) r p (by omega) λG I w v x=>vG m w (i+2) (j.push v) G I x (by
   obtain⟨⟨J,L,y⟩,M,z,A⟩:=p;refine⟨⟨by omega,by omega,λs N=> ?_⟩,by omega, ?_, ?_⟩
   ·have:=y (s+1) (by omega);rw[show(i+2).toNat+2*s=i.toNat+2*(s+1) by omega];exact this
   ·rw[show(i+2).toNat+2*m=i.toNat+2*(m+1) by omega];exact z
   ·rw[show(i+2).toNat+2*m=i.toNat+2*(m+1) by omega];exact A) (by rw[Array.size_push];omega)
  refine q.alt rfl rfl rfl rfl rfl rfl λb t=>⟨(cons (b 1) (cons (b 2) (cons (b 3) (cons (b 4) (cons (b 5) (cons (b 6) (cons (b 7) (cons (b 8) (cons (b 0) (cn 9 b)))))))))),t,rfl, ?_,rfl,rfl,rfl,rfl⟩
  show[_,_,_,_]=[_,_,_,_];refine cY ?_ (cY ?_ (cY rfl (cY ?_ rfl)))
  ·rw[show i+2+2*(m:Int)+2=i+2*((m+1:Nat):Int)+2 by omega]
  ·show cm _ _=cm _ _;unfold kS;rw[gu];rfl
  ·rw[show i+2+2*(m:Int)=i+2*((m+1:Nat):Int) by omega];rfl
def zF(g:WC)(k:Bool)(d c f e b m:Nat)(h:cl)(i j:Fin 16)(l:Nat):Spec:=
 ⟨if k then .compStart Nf 0 (.ref d) (.ref c) (y0 f e b)else CN d c f e b,if k then 64 else 60,some b,⟨pl (ma g d c f e m 0 20 #[] h i j l none 0),[],λa _=>p4 g 0 19 #[] h i j l a,nn,λa n=>p3 (.type "ValueError") (.ref (a 4)) b a n,nn,[],nn⟩,λa _=>.error (.ref (a 0))⟩
theorem zG(b:jh k T a 0 19):OK u (zF (Pm u) false e d h f c i k T a g):=
 vG 19 i 0 #[] none 0 (.inl rfl) b (by simp)
theorem zH(n:jh k T a 0 19):OK u (zF (Pm u) true e d h f c i k T a g):=by
 obtain⟨o,b1,b2⟩:=u;cases b2 with
 |true=>exact oT 0x112 [[0,1,2,3]] [3,2,1,0,5,4] (dT [] λb=>dI b) ⟨λj m l=>zG n,cg⟩ (Y:=[λj m l=>zF (Pm ⟨o,b1,true⟩) false e d h f c i k T a g]) (Z:=g4 [0])
 |false=>exact oT 0x1111011112 [[0,1,2,3]] [3,2,1,0,5,4] (dT [] λb=>dI b) ⟨λj m l=>zG n,cg⟩ (Y:=[λj m l=>zF (Pm ⟨o,b1,false⟩) false e d h f c i k T a g]) (Z:=g4 [0])
def F9(a:cl)(c:Nat):Spec:=F7 (.call (.ref 151) ⟨[.bytes a c],[]⟩) 90 [] (.type "ValueError") λb=>.ref (b 4)
theorem Dt(g:jh k T a 0 19)(f:k.size=40):OK u (F9 k c):=
 oT 0x1207f11a0ff000001012502f506f1111101001333112201122 [[],[],[2,1,4,0]] [7,6] (cJ [31,39,47,0,63]) ⟨λb d e=>cN (by rw[f];rfl) (by omega),λb d e=>cN (by rw[f];rfl) (by omega),λb d e=>zH g,cg⟩ (Y:=[fl k 40,fl k 40,λb d e=>zF (Pm u) true (jf b) (hC b) (y5 b) (hD b) (l9 b) (eJ d 1) k T a c]) (Z:=g4 [3])
theorem HV(g:jh k T a 0 19)(e:k.size=40):OK u (B8 k c false):=
 oT 0x1124f1011010ff011011220020101211030000011303322 [[],[0],[]] [] (cJ []) ⟨λb f d=>cN (by rw[e];rfl) (by omega),oX,λb f d=>Dt g e,cg⟩ (Y:=[fl k 40,pR 40 true,λb f d=>F9 k c])
end
section
open PySem.Calls
theorem rU:entryFor table "bytes.__repr__" =some Builtin.«bytes.__repr__»:=entryFor_of_tree (by kernel_rfl)
theorem zJ{d:WJ}{e:WG}{b:Nat->WA gi}{a:Str}(i:Builtin.Bytes.literal k=a)(r:k.size<=1000000)(t:a.length<=1000000):ct d e b (fh "bytes.__repr__" [.bytes k c] [] λg=>.str a (g 0)):=
 jV (by decide+kernel) rU λp f q E _ _ _ _ s m=>by
  have h:Builtin.«bytes.__repr__» ⟨[.bytes k c],[]⟩=retStr a:=by
   show(Builtin.Bytes.literalAsked k>>=λo=>retStr o)=_
   have n:Builtin.Bytes.literalAsked k=pure a:=by
    unfold Builtin.Bytes.literalAsked;have l:¬(Builtin.Bytes.tooLong (4*k.size+3+0) && Builtin.Bytes.tooLong (Builtin.Bytes.literalLength k false+0))=true:=by
     rw[Bool.and_eq_true];intro j;exact jb (by omega) j.1
    rw[if_neg l,i]
   rw[n];rfl
  rw[h];unfold retStr;exact ci (wpAny_mkStr (cj ⟨_,rfl,m (λ_=>f.toks) (f.toks+1)⟩) (by show a.length<=2^24;omega))
def W1(a:WG)(c:Bool):WG:=⟨a.draws,{a.params with followText:=λb=>match PySem.W.S.strDecS b "fstring-hands-on-the-str" with
 | .isTrue _=>c
 | .isFalse _=>a.params.followText b}⟩
theorem vH(b:WG):W1 b (b.params.followText "fstring-hands-on-the-str")=b:=by
 obtain⟨f,c⟩:=b;have e:(λa=>match PySem.W.S.strDecS a "fstring-hands-on-the-str" with
  | .isTrue _=>c.followText "fstring-hands-on-the-str"
  | .isFalse _=>c.followText a)=c.followText:=by
  funext a;cases PySem.W.S.strDecS a "fstring-hands-on-the-str" with
  |isTrue d=>subst d;rfl
  |isFalse _=>rfl
 unfold W1;simp only[e]
end
section
def rV(a:cl)(d:Str):U:=λc f e=>fh "bytes.__repr__" [.bytes a (tk c 0)] [] λb=>.str d (b 0)
def xw(b c:Nat)(a:uh):Str:=⟨(98::39::((List.replicate 19 [b,c]).flatten++a)).toArray⟩
def tW(a:cl)(c:Nat)(b:Str)(d:Nat):Spec:=F7 (.call (.ref 193) ⟨[.bytes a c,.str b d],[]⟩) 140 [] (.ref 44) λe=>.none
def ij(a b:Fin 16):cl:=⟨(List.replicate 19 [dM a,dM b]).flatten++[dM a]⟩
def gG(a b:Fin 16):cl:=⟨(List.replicate 19 [dM a,dM b]).flatten++[dM a,103]⟩
def oY(b:cl):Prop:=∀a∈b.toList,32<=a.toNat/\a.toNat<127/\a.toNat≠39/\a.toNat≠92
theorem rW(d:UInt8->WD Nat):∀(b:Wy UInt8) (a:WD Nat),(∀c∈b,d c= #[c.toNat])->(b.foldl (λa c=>a++d c) a)=a++(b.map (·.toNat)).toArray
 |[],a,e=>by simp
 |c::b,a,e=>by
  rw[List.foldl_cons,e c (.head _),rW d b _ λg f=>e g (.tail _ f)]
  apply Array.ext';simp
theorem oZ{a:cl}(g:oY a):Builtin.Bytes.literal a=⟨(98::39::(a.toList.map (·.toNat)++[39])).toArray⟩:=by
 have d:a.contains 39=false:=by
  rw[<-Bool.not_eq_true,Array.contains_iff_mem];intro m;exact(g 39 (by simpa using m)).2.2.1 rfl
 unfold Builtin.Bytes.literal;simp only[d,Bool.false_and];rw[<-Array.foldl_toList];have n:∀c∈a.toList,(λc:Nat=>if(c==(if false then 39 else(if false=true then(34:Nat)else 39))||c==92)=true then #[92,c]else if(c==9)=true then #[92,116]else if(c==10)=true then #[92,110]else if(c==13)=true then #[92,114]else if(decide (c<32)||decide (c>=127))=true then #[92,120,(λb=>if b<10 then 48+b else 87+b) (c/16),(λb=>if b<10 then 48+b else 87+b) (c % 16)]else #[c]) c.toNat= #[c.toNat]:=λc d=>by
  obtain⟨o,p,q,r⟩:=g c d;have e1:(c.toNat==39)=false:=by simp;omega
  have e2:(c.toNat==92)=false:=by simp;omega
  have e3:(c.toNat==9)=false:=by simp;omega
  have i:(c.toNat==10)=false:=by simp;omega
  have j:(c.toNat==13)=false:=by simp;omega
  have e6:(decide (c.toNat<32))=false:=by simp;omega
  have e7:(decide (c.toNat>=127))=false:=by simp;omega
  simp[e1,e2,e3,i,j,e6,e7]
 have k:=rW _ a.toList #[98,39] n;have l:∀e f:WD Nat,e=f->(⟨e.push 39⟩:Str)=⟨f.push 39⟩:=λe f h=>by rw[h]
 refine(l _ _ k).trans ?_;congr 1;apply Array.ext';simp
instance (b:cl):Decidable (oY b):=by unfold oY;infer_instance
theorem nv:∀a:Fin 16,32<=(dM a).toNat/\(dM a).toNat<127/\(dM a).toNat≠39/\(dM a).toNat≠92:=by decide+kernel
variable {a:Fin 16}
theorem o0{b:Fin 16}{c:Wy UInt8}(g:∀d∈c,d=dM a\/d=dM b\/d=103):oY ⟨(List.replicate 19 [dM a,dM b]).flatten++c⟩:=by
 intro d e;have:d=dM a\/d=dM b\/d=103:=by
  rcases ud e with f|f
  ·obtain⟨i,h,e⟩:=List.mem_flatten.mp f;rw[(List.mem_replicate.mp h).2]at e;simp only[List.mem_cons,List.not_mem_nil,or_false]at e;rcases e with rfl|rfl<;>simp
  ·exact g d f
 rcases this with rfl|rfl|rfl
 ·exact nv a
 ·exact nv b
 ·decide
theorem NI(a b:Fin 16):Builtin.Bytes.literal (ij a b)=xw (dM a).toNat (dM b).toNat [(dM a).toNat,39]:=by
 have d:oY (ij a b):=o0 (a:=a) (b:=b) λe c=>by rw[List.mem_singleton]at c;exact .inl c
 rw[oZ d];rfl
theorem Ru(a b:Fin 16):Builtin.Bytes.literal (gG a b)=xw (dM a).toNat (dM b).toNat [(dM a).toNat,103,39]:=by
 have d:oY (gG a b):=o0 (a:=a) (b:=b) λe c=>by
  simp only[List.mem_cons,List.not_mem_nil,or_false]at c;rcases c with rfl|rfl<;>simp
 rw[oZ d];rfl
theorem zK(b c:Fin 16):jh (gG b c) b c 0 19:=by
 refine⟨⟨by decide,by decide,λd a=> ?_⟩,by decide,rfl,rfl⟩
 exact match d,a with
  |0,_=>⟨rfl,rfl⟩|1,_=>⟨rfl,rfl⟩|2,_=>⟨rfl,rfl⟩|3,_=>⟨rfl,rfl⟩|4,_=>⟨rfl,rfl⟩|5,_=>⟨rfl,rfl⟩|6,_=>⟨rfl,rfl⟩|7,_=>⟨rfl,rfl⟩|8,_=>⟨rfl,rfl⟩|9,_=>⟨rfl,rfl⟩|10,_=>⟨rfl,rfl⟩|11,_=>⟨rfl,rfl⟩|12,_=>⟨rfl,rfl⟩|13,_=>⟨rfl,rfl⟩|14,_=>⟨rfl,rfl⟩|15,_=>⟨rfl,rfl⟩|16,_=>⟨rfl,rfl⟩|17,_=>⟨rfl,rfl⟩|18,_=>⟨rfl,rfl⟩|n+19,a=>absurd a (by omega)
theorem k5{a:Str}(e:Builtin.Bytes.literal k=a)(f:k.size<=1000000)(g:a.length<=1000000):∀b d c,OK u (rV k a b d c):=λb d c=>zJ e f g
def Qs:Nat:=0x112ff111020ef11012209f30ff30af02101100f0110101022222022021311
theorem Du:OK u (tW (ij T a) c (lq "invalid tree sha") d):=by
 obtain⟨f,b1,b2⟩:=u;have i:=NI T a;have j:∀m,OK ⟨m,b1,b2⟩ (B8 (ij T a) c false):=λm=>Hp rfl
 have k:(ij T a).size<=1000000:=by show 39<=1000000;decide
 generalize (dM T).toNat=g,(dM a).toNat=n,ij T a=e at i j k|-;have o:∀(f:WG) (b:Bool),OK ⟨W1 f b,b1,b2⟩ (tW e c (lq "invalid tree sha") d):=λf b=>by
  cases b with
  |true=>exact oT Qs [[],[],[]] [2,4] (cJ [19,23,31,0]) ⟨λb l h=>j _,k5 i k (by show 42<=1000000;decide),es,cg⟩ (Y:=[λb l h=>B8 e c false,rV e (xw g n [g,39]),hE]) (Z:=g4 [16])
  |false=>exact oT Qs [[],[],[]] [2,4] (cJ [13,17,25,0]) ⟨λb l h=>j _,k5 i k (by show 42<=1000000;decide),es,cg⟩ (Y:=[λb l h=>B8 e c false,rV e (xw g n [g,39]),hE]) (Z:=g4 [16])
 exact vH f▸o f _
theorem Dv:OK u (tW (gG T a) c (lq "invalid parent sha") d):=by
 obtain⟨f,b1,b2⟩:=u;have i:=Ru T a;have j:∀m,OK ⟨m,b1,b2⟩ (B8 (gG T a) c false):=λm=>HV (zK T a) rfl
 have k:(gG T a).size<=1000000:=by show 40<=1000000;decide
 generalize (dM T).toNat=g,(dM a).toNat=n,gG T a=e at i j k|-;have o:∀(f:WG) (b:Bool),OK ⟨W1 f b,b1,b2⟩ (tW e c (lq "invalid parent sha") d):=λf b=>by
  cases b with
  |true=>exact oT Qs [[],[],[]] [2,4] (cJ [19,23,31,0]) ⟨λb l h=>j _,k5 i k (by show 43<=1000000;decide),es,cg⟩ (Y:=[λb l h=>B8 e c false,rV e (xw g n [g,103,39]),hE]) (Z:=g4 [16])
  |false=>exact oT Qs [[],[],[]] [2,4] (cJ [13,17,25,0]) ⟨λb l h=>j _,k5 i k (by show 43<=1000000;decide),es,cg⟩ (Y:=[λb l h=>B8 e c false,rV e (xw g n [g,103,39]),hE]) (Z:=g4 [16])
 exact vH f▸o f _
end
section
open PySem.Calls
def eu(a b:Nat):gi:=⟨.ref a,some b,.plain,#[]⟩
def tX(b c a:Nat):gi:={cls:= .type "super",dict:=none,data:= .fields #[.ref b,.ref c,.ref a],slots:= #[]}
def NJ(a b:Nat):gi:={cls:= .type "method",data:= .fields #[.ref a,.ref b]}
def NK(a:WC):Frag:=[(888,u7 a),(310,yn a),(311,yo a),(2,Qk a)]
theorem zL{w:WG}{a:Heap}(b:gq (KB w) a):(NK w.params).In a:=by refine Frag.in_of (as:=[888,310,311,2]) rfl ?_;show[a.get? 888,a.get? 310,a.get? 311,a.get? 2]=_;rw[b 888 (u7 w.params) (by kernel_rfl),b 310 (yn w.params) (by kernel_rfl),b 311 (yo w.params) (by kernel_rfl),b 2 (Qk w.params) (by kernel_rfl)];rfl
theorem uv:entryFor table "super.__getattribute__" =some Builtin.«super.__getattribute__»:=entryFor_of_tree (by kernel_rfl)
def NL(b a c d:Nat):Spec:=FP "super.__getattribute__" [.ref b,.str (lq "__init__") d] [(b,tX 888 a 888),(a,eu 888 c)] (NJ 242 a)
theorem HW:OK u (NL c a d e):=by
 intro g R f o j b i h k;have n:a≠888:=by
  have:=(h.pre ⟨a,eu 888 d,false⟩ (.tail _ (.head _))).2.1;rintro rfl;rw[show KB (W2 u) 888=some (u7 (Pm u)) by kernel_rfl]at this;cases this
 refine vi (P:=PW) (w:=W2 u) (K:=KB (W2 u)) (by decide+kernel) uv rfl (λg f r E _ _ _ b p q=> ?_) g R f o j b i h k
 have m:f.heap.get? c=some (tX 888 a 888):=p (c,tX 888 a 888) (.head _);obtain⟨v,t,s,tk,x⟩:=f;have X:=zL (w:=W2 u) b;refine ks_wpAny_super_ga (l₀:=[.ref 888,.ref 311,.type "object"]) (l:=[.ref 311,.type "object"]) m (Looks.of_peek X (by kernel_rfl)) (Looks.of_peek X (by kernel_rfl)) (by decide+kernel) X (by kernel_rfl) (b 242 (FK (Pm u)) (by kernel_rfl)) rfl n (by decide+kernel) ⟨_,rfl,q tk⟩
end
def SY(b:uk)(a:Nat):Nat:=((b[a]?.getD default).dict).getD 0
def NM:U:=λa b d=>NL (ad a 0) (match(ky b 0 1)with| .ref c=>c|_=>0) (SY b 1) (tk a 1)
theorem Dw:∀a c b,OK u (NM a c b):=λa c b=>HW
structure CM where
 (sha U4:Wz)
 U8:Bool
 (parents enc sig extra Wo Wn tree msg UK Vq VE UL Vo Vy:Wz)
def vI(a:WC)(c:CM)(b:AL):Wy WL:=[dx a "_sha" (b 0) c.sha,dx a "_chunked_text" (b 1) c.U4,dx a "_needs_serialization" (b 2) (.bool c.U8),dx a "object_format" (b 3) (.ref 76),dx a "_parents" (b 4) c.parents,dx a "_encoding" (b 5) c.enc,dx a "_gpgsig" (b 6) c.sig,dx a "_extra" (b 7) c.extra,dx a "_author_timezone_neg_utc" (b 8) c.Wo,dx a "_commit_timezone_neg_utc" (b 9) c.Wn]
def HX(a:WC)(c:CM)(b:AL):gi:=fk (vI a c b) 10
def Rv(a:WC)(c:CM)(b:AL):gi:=fk (vI a c b++[dx a "_tree" (b 10) c.tree,dx a "_message" (b 11) c.msg,dx a "_author" (b 12) c.UK,dx a "_author_time" (b 13) c.Vq,dx a "_author_timezone" (b 14) c.VE,dx a "_committer" (b 15) c.UL,dx a "_commit_time" (b 16) c.Vo,dx a "_commit_timezone" (b 17) c.Vy]) 18
def Rw(b a:Nat):CM:=⟨.none,.none,true,.ref b,.none,.none,.ref a,.bool false,.bool false,.none,.none,.none,.none,.none,.none,.none,.none⟩
def NN(b:WC):Spec:=⟨ul 888 [],100,none,UM [] (λ_=>[]) (λa=>[(a 0,eu 888 (a 1)),(a 1,HX b (Rw (a 2) (a 3)) (cn 4 a)),(a 2,cm #[] 0),(a 3,cm #[] 0)]),λa _=>uj (.ref (a 0))⟩
theorem Dx:OK u (NN (Pm u)):=
 oT 0x11519f150af050af01300f131f9234f21ff102f11af330300f10112100110001110f4bff18f918ff19f319f1531af50150510df5066600f18ff18f818f56319f60160610cf607770f18ff18f818f620cf017017070000070888 [[0,2]] [1,0,6,7] (cJ [1,0,30,44,16,20,24,28,34,38,42,48,52,56]) ⟨Dw,cg⟩ (Y:=[NM])
def S0:PySem.Expr:=tH [54,4,2] []
def nw(b:cl):Wy cl->cl
 |[]=>b
 |q::a=>nw q a
def NO(a:WC)(d:Wy cl)(e f:Nat):gi:=match d with
 |[]=>fk [] 0
 |c::b=>fk [dx a "p" e (.bytes (nw c b) f)] 1
def Ua(c b d a:Nat):Code:= .compStart S0 0 (.ref c) (.ref b) (yV S0 (lq "Commit._deserialize.<locals>.") 676 d a)
def S1(i:WC)(c g e h d f:Nat)(a:Wy cl)(b:AL):Spec:=
 ⟨Ua c e h d,60,some d,⟨pl [(c,dp g c 0),(g,cp a b f),(e,cm #[] 0),(h,fk [] 0)],[],λj _=>[dL "list_iterator" [.none,.int a.length 0],cp a b f,cp a b a.length,NO i a (j 0) (b (a.length-1))],nn,nn,nn,[],nn⟩,λ_ _=>.ok .next⟩
theorem NP(b:A.length<=3):OK u (S1 (Pm u) e f c g a d A y):=by
 obtain⟨k,b1,b2⟩:=u
 match A,b with
 |[],_=>cases b2 with
  |true=>exact oT 0x1131011111211001 [] [3,2,1,0] (cJ []) trivial (Y:=[])
  |false=>exact oT 0x111206f31011111211001 [] [3,2,1,0] (cJ []) trivial (Y:=[])
 |[h],_=>cases b2 with
  |true=>exact oT 0x1131011111211440400000111001014144432012122322001 [] [3,2,1,0] (cJ [0]) trivial (Y:=[])
  |false=>exact oT 0x111206f31011111211440400000111001014144432012122322001 [] [3,2,1,0] (cJ [0]) trivial (Y:=[])
 |[h,i],_=>cases b2 with
  |true=>exact oT 0x11310111112114404920f4144432012122322550500000111001015155533013133433001 [] [3,2,1,0] (cJ [0]) trivial (Y:=[])
  |false=>exact oT 0x111206f310111112114404920f4144432012122322550500000111001015155533013133433001 [] [3,2,1,0] (cJ [0]) trivial (Y:=[])
 |[h,i,j],_=>cases b2 with
  |true=>exact oT 0x11310111112114404920f41444320121223225505920f5155533013133433660600000111001016166634014144544001 [] [3,2,1,0] (cJ [0]) trivial (Y:=[])
  |false=>exact oT 0x111206f310111112114404920f41444320121223225505920f5155533013133433660600000111001016166634014144544001 [] [3,2,1,0] (cJ [0]) trivial (Y:=[])
 |_::_::_::_::_,b=>exact absurd b (by simp)
def Ub(c:WC)(g:Wy cl)(e:Wy AL->AL):U:=λa b f=>S1 c (jf a) (match ky b 0 0 with| .ref d=>d|_=>0) (hC a) (hD a) (l9 a) (eJ b 1) g (e f)
section
def Qt(b:Rd)(c:WA cl)(a:AL):CM:=⟨.none,.ref (a 2),false,.ref (a 3),iX b.en (a 4),iX c (a 5),.ref (a 6),.bool b.fA.neg,.bool b.fC.neg,.bytes b.d.r (a 7),.bytes b.msg (a 8),.bytes b.fA.person (a 9),gw b.fA.time (a 10),gw b.fA.zone (a 11),.bytes b.fC.person (a 12),gw b.fC.time (a 13),gw b.fC.zone (a 14)⟩
def zM(c:WC)(b:Rd)(d:WA cl)(e:Nat)(a:AL):Wy (Nat×gi):=[(a 0,eu 888 (a 1)),(a 1,Rv c (Qt b d a) (cn 21 a)),(a 2,cp [b.T] (λ_=>e) 0),(a 3,cp b.ps (zq (a 15) (a 16) (a 17)) b.ps.length),(a 6,cm (ei b.E.length (a 18) (a 19)) (a 20))]
def rX(b:Rd)(a:AL):jz:=⟨ei b.E.length (a 18) (a 19),b.E⟩
def HY(h:WC)(c:Rd)(i:WA cl)(f b g:Nat)(d:Wz)(e:ui):Spec:=
 ⟨ul 277 [.ref 888,.bytes c.T f],260,none,⟨pl [(393,ee b),(b,dq d cZ g e)],[],λ_ _=>[ee b,dq d cZ g e],nn,λa _=>pl (zM h c i f a),nn,[],λa _=>[rX c a]⟩,λa _=>uj (.ref (a 0))⟩
def Dy(d:WC)(b:Rd)(e:WA cl)(c:Nat):Spec:=
 ⟨ul 277 [.ref 888,.bytes b.T c],260,none,⟨pl [(393,fm)],[],λa _=>[ee (a 39)],nn,λa _=>pl (zM d b e c a++[(a 39,dq (jW (a 40)) cZ (a 41) (iH (a 42) (a 43) (a 44) (a 45) (a 46) (a 47) (a 48) (a 49)))]),nn,[],λa _=>[rX b a]⟩,λa _=>uj (.ref (a 0))⟩
def Ga(a:WC)(b:CM)(d c:AL):gi:=fk (vI a b d++[dx a "_tree" (c 10) b.tree,dx a "_message" (c 11) b.msg,dx a "_author" (c 12) b.UK,dx a "_author_time" (c 13) b.Vq,dx a "_author_timezone" (c 14) b.VE,dx a "_committer" (c 15) b.UL,dx a "_commit_time" (c 16) b.Vo,dx a "_commit_timezone" (c 17) b.Vy]) 18
def Gb(b:Rd)(c:Nat)(a:AL):Wy (Nat×gi):=[(a 2,cp [b.T] (λ_=>c) 0),(a 3,cp b.ps (zq (a 15) (a 16) (a 17)) b.ps.length),(a 6,cm (ei b.E.length (a 18) (a 19)) (a 20))]
def iY(f:WC)(c e m l:Nat)(h:AL)(b:Rd)(n:WA cl)(j d k:Nat)(g:Wz)(i:ui):Spec:=
 ⟨ul 263 [.ref c,.bytes b.T j],245,none,⟨pl [(c,eu 888 e),(e,HX f (Rw m l) h),(393,ee d),(d,dq g cZ k i)],[],λa _=>[eu 888 e,Ga f (Qt b n a) h (cn 11 a),ee d,dq g cZ k i],nn,λa _=>pl (Gb b j a),nn,[],λa _=>[rX b a]⟩,λa _=>uj .none⟩
def ov(e:WC)(c d i h:Nat)(f:AL)(b:Rd)(j:WA cl)(g:Nat):Spec:=
 ⟨ul 263 [.ref c,.bytes b.T g],245,none,⟨pl [(c,eu 888 d),(d,HX e (Rw i h) f),(393,fm)],[],λa _=>[eu 888 d,Ga e (Qt b j a) f (cn 11 a),ee (a 39)],nn,λa _=>pl (Gb b g a++[(a 39,dq (jW (a 40)) cZ (a 41) (iH (a 42) (a 43) (a 44) (a 45) (a 46) (a 47) (a 48) (a 49)))]),nn,[],λa _=>[rX b a]⟩,λa _=>uj .none⟩
def tY(a:WC):U:=λb d c=>NN a
def ji(h:Rd)(f:WA cl)(d g:Nat)(b:Wz)(e:ui):U:=λc a i=>xr h f (ad c 0) (eJ a 0) (lk a 0 0) d b g e
def p5(d:Rd)(c:WA cl):U:=λb a e=>xt d c (ad b 0) (eJ a 0) (lk a 0 0)
def mo(b:WC)(c:Rd):U:=Ub b c.ps λa=>zq (cH a 0 9) (cH a 0 10) (cH a 0 11)
theorem jF:∀a c b,OK u (tY (Pm u) a c b):=λa c b=>Dx
variable {a:Rd}
theorem ej(g:d6 u a V):∀b f e,OK u (ji a V c d v L b f e):=λb f e=>HQ g
theorem hF(e:d6 u a V):∀b d c,OK u (p5 a V b d c):=λb d c=>HR e
theorem d4(e:a.ps.length<=3):∀b d c,OK u (mo (Pm u) a b d c):=λb d c=>NP e
def jk(a:yf):Prop:=(∃b c,a.time=some b/\a.zone=some c)\/(a.time=none/\a.zone=none)
def q0:uh:=[0,0,4,45,26,28,32,18,30,50,52,54,58,60,62,34,36,38,42,44,46,41,79,107,115,135,163,171,191]
theorem zO(l:d6 u a V)(m:a.ps.length<=3)(r:jk a.fA)(s:∃o q,a.fC.time=some o/\a.fC.zone=some q):OK u (iY (Pm u) e f h g y a V i c d v L):=by
 have n:cq u [ji a V c d v L,mo (Pm u) a]:=⟨ej l,d4 m,cg⟩;clear l m;obtain⟨x,z,A,D,t,w,p,k,E,⟨J,N,zA,G⟩,⟨M,O,T,H⟩⟩:=a;obtain⟨o,q,b,j⟩:=s;simp only at b j;subst b j;rcases r with⟨C,Q,b,j⟩|⟨b,j⟩<;>simp only at b j<;>subst b j
 all_goals cases p with
  |nil=>cases k<;>cases V<;>exact oT 0x1780f0131ff805f2208f2310853f1f18f918f014014511f5551705f040000451289f108f0020bf020cff09ff09ff09ff09f25d8f21ecfd00fb20cf002f10fd00fd118f0fd010d10d10db550151010011f19ff19ff19ff19ff19f519f0ed20cf010d5f012d140f12d013d13d13d0edaaa01a10f09f809f351fb15bff18f218f11d20cf002f115d015d135f15d016d16d16d0ed0ed0ed010ed10f09f552f0fd166ff18f318f20cf002f118d018d140f18d019d19d19d14d12d12d12d0112d10f09f809f351f13d15bff18f218f17d20cf002f11bd01bd135f1bd01cd1cd1cd16d16d16d0116d10f09f11101111117d11001f18f218f1adf18f118f1bd20cf002f11ed01ed000001ed01fd1fd1fd [[2,6,7],[2,7,1,0]] [3,2,1,0,5,19,12] (cJ q0) n (R:=[.UO 0])
  |cons I p=>cases k<;>cases V<;>exact oT 0x1780f0131ff805f2208f2310853f1f18f918f014014511f5551705f040000451289f108f0020bf020cff09ff09ff09ff09f25daf21eefd00fb20cf002f10fd00fd11af0fd010d10d10db550151010190ff19ff19ff19ff19ff19f519f0ed20cf010d5f012d140f12d013d13d13d0edaaa01a10f09f809f351fb15bff18f218f11d20cf002f115d015d135f15d016d16d16d0ed0ed0ed010ed10f09f552f0fd166ff18f318f20cf002f118d018d140f18d019d19d19d14d12d12d12d0112d10f09f809f351f13d15bff18f218f17d20cf002f11bd01bd135f1bd01cd1cd1cd16d16d16d0116d10f09f11101111117d11001f18f218f1adf18f118f1bd20cf002f11ed01ed000001ed01fd1fd1fd [[2,6,7],[2,7,1,0]] [3,2,1,0,5,19,12] (cJ q0) n (R:=[.UO 0])
def q1:uh:=[0,0,4,45,26,28,32,18,30,50,52,54,58,60,62,34,36,38,42,44,46,41,79,107,115,135,163,171,191,0,0,0,0,0,0,0,0,0,0,64,66,68,70,72,74,76,78,80,82,84]
theorem HZ(j:d6 u a V)(k:a.ps.length<=3)(r:∃b c,a.fA.time=some b/\a.fA.zone=some c)(s:∃b c,a.fC.time=some b/\a.fC.zone=some c):OK u (ov (Pm u) e f h g y a V i):=by
 have n:cq u [p5 a V,mo (Pm u) a]:=⟨hF j,d4 k,cg⟩;clear j k;obtain⟨w,x,z,C,t,v,q,d,E,⟨I,L,zA,D⟩,⟨J,M,O,G⟩⟩:=a;obtain⟨b,c,l,o⟩:=s;obtain⟨A,N,m,p⟩:=r;simp only at l o m p;subst l o m p;cases q with
 |nil=>cases d<;>cases V<;>exact oT 0x1780f0131ff805f2208f2310853f1f18f918f014014511f5551705f040000451289f108f0020bf020cff09ff09ff09ff09f25d8f21ecfd00fc20cf002f110d010d118f10d011d11d11dc550151010011f19ff19ff19ff19ff19f519f0fd20cf002f113d013d140f13d014d14d14d0fdaaa01a10f09f809f351fb15bff18f218f12d20cf010d4f016d135f16d017d17d17d0ed0ed0ed010ed10f09f552f0fd166ff18f318f20cf002f119d019d140f19d01ad1ad1ad15d12d12d12d0112d10f09f809f351f13d15bff18f218f18d20cf002f11cd01cd135f1cd01dd1dd1dd16d16d16d0116d10f09f11101111117d11001f18f218f1bdf18f118f1cd20cf002f11fd01fd000001fd020d20d20d [[2,6],[2,7,1,0]] [2,1,0,4,19,12,7] (cJ q1) n (R:=[.UO 0])
 |cons H q=>cases d<;>cases V<;>exact oT 0x1780f0131ff805f2208f2310853f1f18f918f014014511f5551705f040000451289f108f0020bf020cff09ff09ff09ff09f25daf21eefd00fc20cf002f110d010d11af10d011d11d11dc550151010190ff19ff19ff19ff19ff19f519f0fd20cf002f113d013d140f13d014d14d14d0fdaaa01a10f09f809f351fb15bff18f218f12d20cf010d4f016d135f16d017d17d17d0ed0ed0ed010ed10f09f552f0fd166ff18f318f20cf002f119d019d140f19d01ad1ad1ad15d12d12d12d0112d10f09f809f351f13d15bff18f218f18d20cf002f11cd01cd135f1cd01dd1dd1dd16d16d16d0116d10f09f11101111117d11001f18f218f1bdf18f118f1cd20cf002f11fd01fd000001fd020d20d20d [[2,6],[2,7,1,0]] [2,1,0,4,19,12,7] (cJ q1) n (R:=[.UO 0])
end
section
def Ta(b:uk)(a:Nat):Nat:=((b[a]?.getD default).dict).getD 0
def Tb(d:WC)(j:Rd)(h:WA cl)(f i:Nat)(e:Wz)(g:ui):U:=λb c k=>let a:=c[1]?.getD default
 iY d (ad b 0) (Ta c 0) (hu (cF a 4)) (hu (cF a 7)) (dN a) j h (tk b 1) f i e g
def Rx(d:WC)(f:Rd)(e:WA cl):U:=λb c g=>let a:=c[1]?.getD default
 ov d (ad b 0) (Ta c 0) (hu (cF a 4)) (hu (cF a 7)) (dN a) f e (tk b 1)
variable {a:Rd}
theorem H0(f:d6 u a V)(g:a.ps.length<=3)(h:jk a.fA)(i:∃j k,a.fC.time=some j/\a.fC.zone=some k):OK u (HY (Pm u) a V c d e v L):=
 oT 0x10001111110cf1555805f1100f0125018 [[],[0,1,5,6]] [1,0,6,5,9,8,7] (dT [4,6,15,19,23,27,31,35,39,43,47,51,55,59,63,67,71,75,79,83,87,12,14,16,18,20,22,24,26,28,30,91,95,99,103,107,111,115,119] λb=>dI (cn 1 (odd (cn 4 b)))) ⟨jF,λl n m=>zO f g h i,cg⟩ (Y:=[tY (Pm u),Tb (Pm u) a V d e v L]) (R:=[.UO 0])
theorem H1(f:d6 u a V)(g:a.ps.length<=3)(h:∃b d,a.fA.time=some b/\a.fA.zone=some d)(i:∃b d,a.fC.time=some b/\a.fC.zone=some d):OK u (Dy (Pm u) a V c):=
 oT 0x10001111110cf1555805f1100f0125019 [[],[0,1,5]] [0,5,4,9,8,7,6] (dT [4,6,15,19,23,27,31,35,39,43,47,51,55,59,63,67,71,75,79,83,87,12,14,16,18,20,22,24,26,28,30,91,95,99,103,107,111,115,119,163,167,171,175,179,183,187,191,195,199,203] λe=>dI (cn 1 (odd (cn 4 e)))) ⟨jF,λj l k=>HZ f g h i,cg⟩ (Y:=[tY (Pm u),Rx (Pm u) a V]) (R:=[.UO 0])
end
variable {P:eY}
structure lD(T:cl)(kb:cl)(d:eY):Prop where
 ch:dW [T] T
 line:dA T 0 d.line d.n
 sp:cG d.line #[32]=false
 Vr:eQ d.line kb d.rb
 row:er T ((d.n:Int)+1) kb d.rb d.UP d.np d.lp d.r
def xy(c:cl)(b e h a:Nat)(d:Wz)(i:Nat)(g:ui)(f:AL->Wz):Spec:=
 F7 (.call (.ref 649) ⟨[.ref b],[]⟩) 215 [(b,cp [c] (λ_=>h) e),(393,ee a),(a,dq d cZ i g)] (.ref 44) f
def zQ(u:WB)(c h:cl)(a:eY)(j g k f:Nat)(d:Wz)(l:Nat)(i:ui):U:=λe m b=>ye (ad e 0) (cH b 0 1) (F5 (cH b 0 3)) (F5 (cH b 0 4)) (.fresh (eo (cH b 0 2))) (fe u (cH b 0 2)) (zg u (cH b 0 2) j (cH b 0 5) g f d l i [c] (λ_=>k) c a.line h a.rb a.n a.UP a.np a.lp a.r) 0
theorem mH(b:lD k l P):∀g i h,OK u (zQ u k l P a e f c v d L g i h):=λg i h=>pW b.ch b.line b.sp b.Vr b.row
def Gc:Nat:=0x1282f115df220700f304444040420f03101123310f0f09f111011111211001100fb001409f30ff30af02101100f0110101022222022021331120311
theorem Wx(h:lD k (cE .parent) P):OK u (xy k a e f c v d L (λ_=>.none)):=by
 have i:cq u [λb j g=>qH (Pm u) a,zQ u k (cE .parent) P a e f c v d L,hE]:=⟨λb j g=>gv,mH h,es,cg⟩
 exact oT Gc [[],[0,1,6,7,8],[]] [2,1,0,15,17] (cJ [43,47,55,0]) i (G:=[[],[0],[]]) (Z:=g4 [54])
theorem zV(h:lD k (cE .UK) P):OK u (xy k a e f c v d L (λ_=>.none)):=by
 have i:cq u [λb j g=>qH (Pm u) a,zQ u k (cE .UK) P a e f c v d L,hE]:=⟨λb j g=>gv,mH h,es,cg⟩
 exact oT Gc [[],[0,1,6,7,8],[]] [2,1,0,15,17] (cJ [43,47,55,0]) i (G:=[[],[0],[]]) (Z:=g4 [54])
def zW(u:WB)(b:cl)(a:Str):Prop:=∀c d,OK u (tW b c a d)
theorem Dz(j:lD k (cE .tree) P)(l:zW u P.r (lq "invalid tree sha")):OK u (xy k a e f c v d L (λi=>.ref (i 4))):=by
 have m:cq u [λb h g=>qH (Pm u) a,zQ u k (cE .tree) P a e f c v d L,λb h g=>tW P.r (tk b 0) (lq "invalid tree sha") (tk b 1)]:=⟨λb h g=>gv,mH j,λb h g=>l _ _,cg⟩
 exact oT 0x1000239f000220700f304444040420f03101123310f0f09f111011111211001bbb411f30cf106fb0011bb0b0101221110211 [[],[0,1,6,7,8],[]] [2,1,0,15,16] (cJ [47,55,51,0,63]) m (G:=[[],[0],[]]) (Z:=g4 [90])
def Ry(b:Wz):Nat:=match b with
 | .int (.ofNat a) _=>a
 |_=>0
def Rz(b:uk)(g c:Nat)(d h j l:cl)(k f:Nat)(e:Wz)(m:Nat)(i:ui):PG:=
 let a:=b[1]?.getD default
 ⟨g,Ry (ky b 0 0),ky b 0 1,ky b 0 2,HD c a d h j l k,HM (dN a 0) (dN a 1) (dN a 2) (dN a 3) (dN a 4) (dN a 5) (dN a 6) (dN a 7) (dN a 8) (dN a 9),f,(fdOf (b[2]?.getD default)).doc,iF,e,m,i⟩
def RA(u:WB)(i:Nat)(f k:cl)(b:eY)(j:cl)(a:dm)(h:Nat)(g:Wz)(m:Nat)(l:ui):U:=λc e d=>g5 u (Rz e (ad c 0) (cH d i 2) f k b.lp b.rb b.np h g m l) j a.rb a.UP a.np a.lp a.r c e d
theorem DA{b:dm}(l:lD k (cE .tree) P)(s:ff P.r)(n:eQ P.lp (cE .parent) b.rb)(p:er k ((P.np:Int)+1) (cE .parent) b.rb b.UP b.np b.lp b.r)(m:zW u b.r (lq "invalid parent sha")):OK u (xy k a e f c v d L (λj=>.ref (j 4))):=by
 have q:cq u [λg i h=>qH (Pm u) a,zQ u k (cE .tree) P a e f c v d L,λg i h=>rI P.r (tk g 0) (lq "invalid tree sha") (tk g 1),RA u 2 k (cE .tree) P (cE .parent) b c v d L,λg i h=>tW b.r (tk g 0) (lq "invalid parent sha") (tk g 1)]:=⟨λg i h=>gv,mH l,λg i h=>(by obtain⟨⟨v,w,o⟩,t⟩:=s;exact nj o t),λg i h=>fT n p,λg i h=>m _ _,cg⟩
 exact oT 0x1000239f000220700f304444040420f03101123f55ff4bf10121f411f30cf106fb0011bb0b01bbb3601627310f0f09f111011111211001100f704f00110fd0fd00fd0101221110211 [[],[0,1,6,7,8],[],[5,6,4,13],[]] [2,1,0,19,20] (cJ [163,195,179,0,227]) q (G:=[[],[0],[],[0],[]]) (Z:=g4 [314])
def xz(b:cl)(f a:Nat)(c:Wz)(g:Nat)(e:ui):Spec:=
 F7 (.call (.ref 277) ⟨[.ref 888,.bytes b f],[]⟩) 260 [(393,ee a),(a,dq c cZ g e)] (.ref 44) (λd=>.ref (d 4))
def RB(b:cl)(e:Nat)(c:Wz)(h:Nat)(g:ui)(f:AL->Wz):U:=λd a i=>xy b (ad d 0) (eJ a 0) (lk a 0 0) e c h g f
def Gd:Nat:=0x1755f001555805f434f25980f0131ff805f2208f2310853f1f18f918f014014511f5551705f040000451000001111100010101211103112041130511
theorem p6{b:AL->Wz}(f:∀g e h,OK u (xy k g e h a v c L b)):OK u (xz k d a v c L):=
 oT Gd [[],[2,9,10]] [1,0,12,16] (cJ [39,43,53,0,49]) ⟨jF,λi l j=>f _ _ _,cg⟩ (Y:=[tY (Pm u),RB k a v c L b]) (Z:=g4 [70])
def NQ(a:Fin 6)(c:Nat):Spec:=⟨ul 627 [.int (cL a).2.1 c,.bool (cL a).2.2],40,none,UM [] (λ_=>[]) (λ_=>[]),λb _=>uj (.bytes (cL a).1 (b 0))⟩
def Qu:Nat:=0x100020ff001090af0207f90ef0100f302f011
theorem H2(b:Fin 6):OK u (NQ b a):=by
 match b with
 |0=>exact oT Qu [] [] (cJ [26]) trivial (Y:=[])
 |1=>exact oT 0x1000316f010910f040bf101a0ef0100f302f011 [] [] (cJ [28]) trivial (Y:=[])
 |2=>exact oT Qu [] [] (cJ [26]) trivial (Y:=[])
 |3=>exact oT 0x100030ff01080ff040bf101a0ef0100f302f011 [] [] (cJ [28]) trivial (Y:=[])
 |4=>exact oT Qu [] [] (cJ [26]) trivial (Y:=[])
 |5=>exact oT 0x1000316f041af626f211f61cf90ef0100f302f011 [] [] (cJ [30]) trivial (Y:=[])
def zX(f:cl)(d:Wy cl)(e:cl):U:=λa b g=>fh "bytes.join" [.bytes f (tk a 0),.ref (ad a 1)] [(ad a 1,cm ⟨d3 d (iB b 0)⟩ (eJ b 0))] λc=>.bytes e (c 0)
theorem rY(e:A≠[])(d:eI l A=k)(f:k.size<=16777216)(g:A.foldl (· + ·.size) (l.size*(A.length-1))<=16777216):∀a c b,OK u (zX l A k a c b):=λa c b=>h3 e d f g
def NR(b:Fin 3)(c:Fin 4)(a:Fin 6)(e g h d:Nat):Spec:=⟨ul 641 [.bytes (dv b) g,.int (dt.getD c.val 0) h,.ref e],60,none,UM [(e,eE #[.int (cL a).2.1 d,.bool (cL a).2.2])] (λ_=>[eE #[.int (cL a).2.1 d,.bool (cL a).2.2]]) (λ_=>[]),λf _=>uj (.bytes (dk b c a) (f 0))⟩
theorem t0:∀(a:Fin 3) (b:Fin 4) (c:Fin 6),eI #[32] [dv a,xg b,(cL c).1]=dk a b c/\(dk a b c).size<=1000/\[dv a,xg b,(cL c).1].foldl (· + ·.size) 2<=1000:=by decide+kernel
def Qv:Nat:=0x100214f129f22201210f09f1116f11131100144444004c02f11044010012
theorem p8{c:Fin 3}{b:Fin 4}{a:Fin 6}:OK u (NR c b a g d e f):=by
 obtain⟨j,m,k⟩:=t0 c b a;have h:cq u [λi n l=>NQ a (tk i 0),zX #[32] [dv c,xg b,(cL a).1] (dk c b a)]:=⟨λi n l=>H2 a,rY (by simp) j (by omega) (Nat.le_trans k (by decide)),cg⟩
 clear j m k;revert h
 match b with
 |0=>exact λh=>oT Qv [[],[0]] [0] (cJ [17]) h
 |1=>exact λh=>oT Qv [[],[0]] [0] (cJ [17]) h
 |2=>exact λh=>oT Qv [[],[0]] [0] (cJ [17]) h
 |3=>exact λh=>oT Qv [[],[0]] [0] (cJ [17]) h
def ow(a b:cl):cl:=eI #[32] [a,b]++ #[10]
def Te(a b:cl)(d e:Nat):Spec:=⟨ul 214 [.bytes a d,.bytes b e],30,none,UM [] (λ_=>[]) (λ_=>[]),λc _=>uj (.bytes (ow a b) (c 0))⟩
theorem NS(b:(eI #[32] [k,l]).size<=1000000)(d:k.size+l.size<=1000000):OK u (Te k l a c):=
 oT 0x1000111103f10012012 [[0],[]] [] (cJ [9]) ⟨rY (by simp) rfl (by omega) (by simp;omega),eG (by show _+1<=_;omega),cg⟩ (Y:=[zX #[32] [k,l] (eI #[32] [k,l]),je (eI #[32] [k,l]) #[10]])
section
open PySem.Calls
def Tf(a:Wz):Spec:=⟨.call (.builtin "list.__new__") ⟨[.type "list",a],[]⟩,4,none,Qn [] (cm #[] 0),λb _=>uj (.ref (b 0))⟩
variable {d:Nat->WA gi} {h:WG} {e:WJ}
theorem NT{a:Wz}:ct e h d (Tf a):=by
 intro k R g ok q p l b n;show codeAny (model e h) k (.call (.builtin "list.__new__") ⟨[.type "list",a],[]⟩) R g;refine codeAny_mono (code_list_new a (Q₁:=λj c=>R (.ok (.ret j)) c) (E:=λi c=>R (.error i) c) ?_) λo c f=> ?_
 ·refine n (λ_=>g.heap.objs.size) (λ_=> #[]) _ (m1 (K:=d) (pre:=[]) ⟨b.pre,b.nd,b.UR,b.U6,b.UX⟩ l rfl ⟨g.toks,rfl⟩)
 ·cases o with
  |error i=>exact f
  |ok m=>cases m with
   |ret j=>exact f
   |_=>exact f.elim
def Qx:TU:=λa c b=>Tf (((lW a)[1]?).getD .none)
theorem uy:∀a c b,OK u (Qx a c b):=λa c b=>NT
def Tg(b a:Nat)(e f:ug)(c d:Nat):Spec:=FP "list.__getitem__" [.ref b,.ref a] [(b,cm e c),(a,gB (.int 1 d) .none)] (cm f 0)
theorem fX:typeLookup (.type "slice") "__index__" =pure none:=hZ
theorem o1{b:ug}(o:H.extract 1 H.size=b)(y:H.size<=1000000):ct e h d (Tg g a H b f c):=
 vi (by decide+kernel) F.entry_list_getitem rfl λt j v E _ _ _ _ n r=>by
  have m:j.heap.get? g=some (cm H f):=n (g,cm H f) (.head _);have k:j.heap.get? a=some (gB (.int 1 c) .none):=n (a,gB (.int 1 c) .none) (.tail _ (.head _));have x:j.heap.IsList g H:=⟨_,m,rfl,f,rfl⟩;show wpAny _ _ (Builtin.List.listSubscript? (.ref a)>>=_) _ _ j;refine ci ?_;unfold Builtin.List.listSubscript?;refine ci (wpAny_specialOf (T:= "slice") ⟨_,k,rfl⟩ fX ?_);refine cj ?_;show wpAny _ _ (typeOf (.ref a)>>=_) _ _ j;refine ci (wpAny_typeOf (T:= "slice") ⟨_,k,rfl⟩ ?_);rw[if_neg (by decide+kernel)];show wpAny _ _ (Builtin.List.listSliceParts (.ref a)>>=_) _ _ j;refine ci ?_;unfold Builtin.List.listSliceParts;refine ci (wpAny_field k rfl rfl ?_);refine ci (cj ?_);rw[if_neg (by intro l;cases l)];refine ci (wpAny_field (i:=0) k rfl rfl ?_);refine ci ?_;show wpAny _ _ (if((Value.int 1 c)==Value.none)=true then _ else _) _ _ _;rw[if_neg (by intro l;cases l)];show wpAny _ _ (specialOf (Value.int 1 c) "__index__" >>=_) _ _ _;rw[hY,em];show wpAny _ _ (pure (rawInt 1)) _ _ _;refine cj ?_;refine ci (wpAny_field (i:=1) k rfl rfl ?_);refine ci (cj ?_);refine cj ?_;dsimp only;refine ci (wpAny_listItems m rfl ?_);have p:sliceIndices (rawInt 1) .none .none H.size=pure (eW (.int 1 0) H.size 0,eW .none H.size H.size,1):=iw (.int 1 0) .none H.size;rw[p];refine ci (cj ?_);dsimp only;have s:((sliceRange (eW (.int 1 0) H.size 0) (eW .none H.size H.size) 1).filterMap (H[·]?)).toArray=b:=by
   have e1:eW (.int 1 0) H.size 0=((min 1 H.size:Nat):Int):=by
    show max 0 (min (if(1:Int)<0 then(1:Int)+H.size else 1) (H.size:Int))=_;rw[if_neg (by decide)];omega
   have e2:eW .none H.size H.size=(H.size:Nat):=rfl;rw[e1,e2,sliceRange_one,pick_run,<-o];apply Array.ext';simp[Array.toList_extract,List.extract_eq_drop_take]
   by_cases q:H.size=0
   ·have:H= #[]:=Array.eq_empty_of_size_eq_zero q;subst this;rfl
   ·rw[Nat.min_eq_left (by omega),List.drop_one]
  rw[s];refine ci (wpAny_newObj_type ?_ ?_)
  ·exact cj ⟨_,rfl,r j.toks⟩
  ·show b.size<=sizeLine;have:b.size<=H.size:=by rw[<-o,Array.size_extract];omega
   have w:(1000000:Nat)<=sizeLine:=by decide
   omega
end
def zZ(a:Nat):Env:=xi [40] (lq "_format_message.<locals>.") 405 404 a []
def jl(a:Nat):Code:= .func ((inner (mj PW.main.body [40]))) (zZ a)
def JV(b a:Nat):Code:=zk [40,0] b (zZ a)
def RD:Stmt->Wy Stmt
 | .For _ _ a _ _=>a
 |_=>[]
def xB(c a:Nat):Code:=match((RD (mj PW.main.body [40,0]))[2]?).getD (.Pass ⟨0,0,0,0⟩)with
 | .For e _ b d _=>.forLoop e (.ref c) b d (zZ a)
 |_=>.call .none ⟨[],[]⟩
inductive RE where
 |zero
 |one (f v:cl) (kf kv kl tf tv:Nat)
 |two (f v l:cl) (kf kv kl k tf tv t:Nat)
structure fB where
 ll:Nat
 F:RE
def fz:fB:=⟨0,.zero⟩
def RF(a:WC)(i:Nat):RE->Wy WL
 | .zero=>[]
 | .one b h c e d f g=>[dx a "field" c (.bytes b f),dx a "value" e (.bytes h g),dx a "lines" d (.ref i)]
 | .two b h k c e d j f g l=>[dx a "field" c (.bytes b f),dx a "value" e (.bytes h g),dx a "lines" d (.ref i),dx a "line" j (.bytes k l)]
def RG:RE->Nat
 | .zero=>2
 | .one .. =>5
 | .two .. =>6
def p9(b:WC)(d f e:Nat)(c:cl)(g:Nat)(a:fB):gi:=ot (dx b "headers" f (.ref d)::dx b "body" e (.bytes c g)::RF b a.ll a.F) (RG a.F)
structure ik where
 (L hl kh kb:Nat)
 body:cl
 tb:Nat
 xs:ug
 U3:Nat
def r0(a:Wy cK):mw:=⟨a,[],nn,nn,nn,nn,[],nn⟩
def NU(a:Nat):ik:=⟨a,100001,0,0,#[],0,#[],0⟩
def H3(c:WG)(a:Nat):oq:=(⟨jl a,none,[],a,60,r0 [⟨a,p9 c.params 100001 0 0 #[] 0 fz,true⟩,⟨100001,cm #[] 0,false⟩],λ_ _=>.ret (.ok .next)⟩,[],[λb e d=>oU (JV (hi b) a) a])
def mI(u:WB)(a:Nat):Wy WM:=pM (ke u (H3 (W2 u) a).1 ({n:=85,UT:=dc 0x11220121013,us:=[],ps:=[],ss:=[λb d c=>oU (JV (hi b) a) a],U2:=[[]],UY:=[[]],U1:=[[]]}:fF) ⟨0,0,0,0⟩ (λ_=>0) (λ_=> #[]))
def vJ(b c:cl)(e:Wy cl):U:=λa _ _=>rk "bytes.split" [.bytes b (tk a 0),.bytes c (tk a 1)] [] λd=>cm ⟨d3 e d⟩ 0
def NV(h:Wy cl)(b:Wy AL->AL)(e:Int)(d:cl)(f:Nat):U:=λa g c=>fh "list.__getitem__" [.ref (ad a 0),.int e (tk a 1)] [(ad a 0,cm ⟨d3 h (b c)⟩ (eJ g 0))] λ_=>.bytes d (b c f)
def vK(d:WC)(a:ik)(c:fB)(b e:Nat):Wy cK:=[⟨a.L,p9 d a.hl a.kh a.kb a.body a.tb c,true⟩,⟨b,dp a.hl b e,false⟩,⟨a.hl,cm a.xs a.U3,false⟩]
def o2(d:ik)(i h f:Nat)(g k a:cl)(e:Wy cl):Wy U:=[λb j c=>xf i d.hl h d.xs d.U3 (.ref f),vJ k #[10] (a::e),NV (a::e) (λc=>cy (cH c 0)) 0 a 0,λb j c=>Te g a (tk b 0) (tk b 1)]
def NW(e:WG)(a b c:Nat)(d:Wy WM):oq:=(⟨JV b a,none,d,a,60,⟨vK e.params (NU a) fz b 0,[],nn,nn,nn,nn,[⟨#[.ref c],[(#[],#[])]⟩],nn⟩,λ_ _=>.ret (.ok .next)⟩,o2 (NU a) b 0 c #[] #[] #[] [],[])
def Tc:Nat:=0x1201222001f3e8e0000bf01f0af021cf1113e8e0110014444401255055111011201
def km(u:WB)(a c:Nat):WA (End×St):=
 let b:=100007
 let d:=mI u a
 ke u (NW (W2 u) a c b d).1 ({n:=228,UT:=dc Tc,us:=(o2 (NU a) c 0 b #[] #[] #[] []),ps:=[[1,2],[],[0],[]]}:fF) ⟨0,0,0,0⟩ (λ_=>0) (λ_=> #[])
def qa(u:WB)(a b:Nat)(c:Wz):End:=cT (km u a b) c
def Ge(d:Wy cl)(a:AL):U:=λb c e=>Tg (ad b 0) (ad b 1) ⟨d3 d a⟩ ⟨d3 d.tail (cy a)⟩ (eJ c 0) (df (ky c 1 0))
def NX(f:WG)(u:WB)(a e c:Nat):oq:=let b:=qa u a e .none
 (⟨iW b,some (iV b (.send .none)),gc b,a,70,r0 [⟨a,p9 f.params 100001 0 0 #[] 0 ⟨c,.one #[] #[] 0 0 0 0 0⟩,true⟩,⟨c,cp [#[],#[]] (λ_=>0) 0,false⟩],λ_ _=>.ret (.ok .next)⟩,[Ge [#[],#[]] λ_=>0],[λd h g=>oU (xB (hi d) a) a])
def Td:Nat:=0x1103330132110111013
def qb(u:WB)(a c:Nat):Wy WM:=
 let d:=100008
 pM (ke u (NX (W2 u) u a c d).1 ({n:=104,UT:=dc Td,us:=[Ge [#[],#[]] λ_=>0],ps:=[[2,0]],ss:=[λb f e=>oU (xB (hi b) a) a],U2:=[[]],UY:=[[]],U1:=[[]]}:fF) ⟨0,0,0,0⟩ (λ_=>0) (λ_=> #[]))
def kn(h:fB)(i:cl)(k j:Nat):fB:=⟨h.ll,match h.F with
 | .zero=>.zero
 | .one a g b d c e f=>.two a g i b d c k e f j
 | .two a g _ b d c l e f _=>.two a g i b d c l e f j⟩
def nx(f:WC)(a:ik)(d:fB)(b c g:Nat)(h:Wy cl)(e:AL):Wy cK:=[⟨a.L,p9 f a.hl a.kh a.kb a.body a.tb d,true⟩,⟨b,dp c b g,false⟩,⟨c,cp h e 0,false⟩]
def yg(a:cl):cl:=(#[32]++a)++ #[10]
def vL(d f c:Nat)(e:Wy cl)(b:AL)(a:cl):Wy U:=[λg i h=>xf d f c ⟨d3 e b⟩ 0 (.bytes a (b c)),je #[32] a,je (#[32]++a) #[10]]
def NY(d:WG)(u:WB)(a e b:Nat)(c:Wy WM):oq:=
 (⟨xB b a,none,c,a,60,r0 (nx d.params (NU a) ⟨0,.one #[] #[] 0 0 0 0 0⟩ b 100009 0 [#[]] λ_=>0),λ_ _=>.ret (.ok .next)⟩,vL b 100009 0 [#[]] (λ_=>0) #[],[])
def RC:Nat:=0x120122111012012
def lE(u:WB)(a b c:Nat):WA (End×St):=
 let d:=qb u a b
 ke u (NY (W2 u) u a b c d).1 ({n:=101,UT:=dc RC,us:=(vL c 100009 0 [#[]] (λ_=>0) #[]),ps:=[[1,2],[],[]]}:fF) ⟨0,0,0,0⟩ (λ_=>0) (λ_=> #[])
def xC(u:WB)(a b c:Nat)(d:Wz):End:=cT (lE u a b c) d
def NZ(c:WG)(u:WB)(a b:Nat):oq:=
 (⟨JV b a,none,mI u a,a,60,r0 (vK c.params (NU a) ⟨0,.one #[] #[] 0 0 0 0 0⟩ b 0),λ_ _=>.ret (.ok .next)⟩,[λd f e=>jM b 100001 0 #[] 0],[])
def lF(u:WB)(b:Nat):WA (End×St):=
 let a:=100010
 ke u (NZ (W2 u) u b a).1 ({n:=78,UT:=dc 0x12012210,us:=[λc e d=>jM a 100001 0 #[] 0],ps:=[[1,2]]}:fF) ⟨0,0,0,0⟩ (λ_=>0) (λ_=> #[])
def uz(u:WB)(a:Nat)(b:Wz):End:=cT (lF u a) b
def N0(c:WG)(u:WB)(a:Nat):oq:=let b:=uz u a .none
 (⟨iW b,some (iV b (.send .none)),gc b,a,70,r0 [⟨a,p9 c.params 100001 0 0 #[0] 0 ⟨0,.one #[] #[] 0 0 0 0 0⟩,true⟩],λ_ _=>.ret (.ok .next)⟩,[fl #[0] 1],[])
def ny(u:WB)(a:Nat):WA (End×St):=ke u (N0 (W2 u) u a).1 ({n:=76,UT:=[1,1,1],us:=[fl #[0] 1],ps:=[[]]}:fF) ⟨0,0,0,0⟩ (λ_=>0) (λ_=> #[])
def N1(u:WB)(a:Nat)(b:Wz):End:=cT (ny u a) b
theorem lG(u:WB)(a b:Nat):qY (cT (km u a b) .none)=true:=by obtain⟨c,b1,b2⟩:=u;cases b1<;>kernel_rfl
theorem nz(u:WB)(a b c:Nat):qY (cT (lE u a b c) .none)=true:=by obtain⟨d,b1,b2⟩:=u;cases b1<;>kernel_rfl
theorem qc(u:WB)(a:Nat):qY (cT (lF u a) .none)=true:=by obtain⟨b,b1,b2⟩:=u;cases b1<;>kernel_rfl
theorem z0(u:WB)(a:Nat):qY (cT (ny u a) .none)=true:=by obtain⟨b,b1,b2⟩:=u;cases b1<;>kernel_rfl
theorem z3(u:WB)(a b:Nat):(cT (km u a b) .none).quiet=true:=by obtain⟨c,b1,b2⟩:=u;cases b1<;>kernel_rfl
theorem Gf(u:WB)(a b c:Nat):(cT (lE u a b c) .none).quiet=true:=by obtain⟨d,b1,b2⟩:=u;cases b1<;>kernel_rfl
theorem Gg(u:WB)(a:Nat):(cT (lF u a) .none).quiet=true:=by obtain⟨b,b1,b2⟩:=u;cases b1<;>kernel_rfl
theorem N5(u:WB)(a:Nat):(cT (ny u a) .none).quiet=true:=by obtain⟨b,b1,b2⟩:=u;cases b1<;>kernel_rfl
section
def hj(g:fB)(b f:cl)(a:AL):fB:=⟨a 0,match g.F with
 | .zero=>.one b f (a 2) (a 3) (a 4) (a 5) (a 6)
 | .one _ _ c e d _ _=>.one b f c e d (a 5) (a 6)
 | .two _ _ i c e d h _ _ j=>.two b f i c e d h (a 5) (a 6) j⟩
def jG(c:WC)(a:ik)(b:fB):gi:=p9 c a.hl a.kh a.kb a.body a.tb b
def k6(a:Nat):gi:=dL "list_iterator" [.none,.int a 0]
structure RowW(h v l0:cl)(ls:Wy cl):Prop where
 split:gg v #[10] (v.size+1)=l0::ls
 sz:∀q∈l0::ls,q.size<=100000
 len:(l0::ls).length<=100000
 j:(eI #[32] [h,l0]).size<=1000000
 k:h.size+l0.size<=1000000
theorem iI(c:Wy cl)(b:AL)(a:Nat):(⟨d3 c b⟩:ug)[a]?=(c[a]?).map λd=>.bytes d (b a):=by rw[<-kK];simp
theorem uA(f:k.isEmpty=false)(d:gg l k (l.size+1)=A)(g:∀h∈A,h.size<=16777216)(e:A.length<=16777216):∀a c b,OK u (vJ l k A a c b):=λa c b=>xd f d g e
theorem DB{a:Wy AL->AL}{k:Nat}(e:A[k]?=some l)(f:k<=100000):∀b d c,OK u (NV A a (k:Nat) l k b d c):=λb d c=>dZ (by omega) (by omega) (by
 rw[Int.toNat_natCast,iI,e];rfl)
variable {o b:Nat} {a:ik}
theorem nA(h:a.xs[o]?=some (.ref b))(d:RowW m n l A):cq u (o2 a c o b m n l A):=
 ⟨λe i f=>iy h,uA rfl d.split (λp g=>by have:=d.sz p g;omega) (by have:=d.len;omega),DB (k:=0) rfl (by omega),λe i f=>NS d.j d.k,cg⟩
def uB(u:WB)(a:ik)(c f i:Nat)(e:fB)(d h g:cl)(j:Wy cl):Seg:=
 ⟨JV c a.L,none,mI u a.L,a.L,60,⟨vK (Pm u) a e c f,[],λb _=>[jG (Pm u) a (hj e d h b),dp a.hl c (f+1:Nat),cm a.xs a.U3],nn,λb _=>[⟨b 0,cp (g::j) (cn 8 b) 0,false⟩],nn,[⟨#[.ref i],[(d,h)]⟩],nn⟩,λb _=>qa u a.L c (.bytes (ow d g) (b 1))⟩
def z4(u:WB)(a:ik)(d:Nat)(b:fB):Seg:=
 ⟨JV d a.L,none,mI u a.L,a.L,60,⟨vK (Pm u) a b d a.xs.size,[],λc _=>[jG (Pm u) a b,k6 a.xs.size,cm a.xs a.U3],nn,nn,nn,[],nn⟩,λc _=>uz u a.L (.bytes #[10] (c 0))⟩
def uC(u:WB)(a:ik)(g b j e:Nat)(i:Wy cl)(c:AL)(f:fB)(h:cl):Seg:=
 ⟨xB b a.L,none,qb u a.L g,a.L,60,⟨nx (Pm u) a f b j e i c,[],λd _=>[jG (Pm u) a (kn f h (d 1) (c e)),dp j b (e+1:Nat),cp i c 0],nn,nn,nn,[],nn⟩,λd _=>xC u a.L g b (.bytes (yg h) (d 0))⟩
def nB(e:WC)(a:ik)(c:fB)(b f g j h:Nat)(i:Wy cl)(d:AL):Wy cK:=nx e a c g j h i d++[⟨b,dp a.hl b f,false⟩,⟨a.hl,cm a.xs a.U3,false⟩]
def nC(u:WB)(a:ik)(c h l i n:Nat)(d:Wy cl)(g:AL)(f:fB)(e k j:cl)(m:Wy cl):Seg:=
 ⟨xB i a.L,none,qb u a.L c,a.L,60,⟨nB (Pm u) a f c h i n d.length d g,[],λb _=>[jG (Pm u) a (hj f e k b),k6 d.length,cp d g 0,dp a.hl c (h+1:Nat),cm a.xs a.U3],nn,λb _=>[⟨b 0,cp (j::m) (cn 8 b) 0,false⟩],nn,[⟨#[.ref l],[(e,k)]⟩],nn⟩,λb _=>qa u a.L c (.bytes (ow e j) (b 1))⟩
def nD(u:WB)(a:ik)(f g h:Nat)(b:Wy cl)(d:AL)(c:fB):Seg:=
 ⟨xB g a.L,none,qb u a.L f,a.L,60,⟨nB (Pm u) a c f a.xs.size g h b.length b d,[],λe _=>[jG (Pm u) a c,k6 b.length,cp b d 0,k6 a.xs.size,cm a.xs a.U3],nn,nn,nn,[],nn⟩,λe _=>uz u a.L (.bytes #[10] (e 0))⟩
def uD(d:WC)(a:ik)(b:fB)(e:Wy cl)(c:AL):Wy cK:=[⟨a.L,p9 d a.hl a.kh a.kb a.body a.tb b,true⟩,⟨b.ll,cp e c 0,false⟩]
def vM(u:WB)(c:ik)(h:Nat)(d:AL)(g:fB)(i b:cl)(e:Wy cl):Seg:=let f:=qa u c.L h .none
 ⟨iW f,some (iV f (.send .none)),gc f,c.L,70,⟨uD (Pm u) c g (i::b::e) d,[],λa _=>[jG (Pm u) c (kn g b (a 1) (d 1)),cp (i::b::e) d 0],nn,λa _=>[⟨a 2,dp (a 3) (a 2) 1,false⟩,⟨a 3,cp (b::e) (cy d) 0,false⟩],nn,[],nn⟩,λa _=>xC u c.L h (a 2) (.bytes (yg b) (a 0))⟩
def uE(e:WC)(a:ik)(c:fB)(b f:Nat)(g:Wy cl)(d:AL):Wy cK:=uD e a c g d++[⟨b,dp a.hl b f,false⟩,⟨a.hl,cm a.xs a.U3,false⟩]
def vN(u:WB)(a:ik)(c h l:Nat)(g:AL)(f:fB)(i:cl)(d k j:cl)(m:Wy cl):Seg:=let e:=qa u a.L c .none
 ⟨iW e,some (iV e (.send .none)),gc e,a.L,70,⟨uE (Pm u) a f c h [i] g,[],λb _=>[jG (Pm u) a (hj f d k b),cp [i] g 0,dp a.hl c (h+1:Nat),cm a.xs a.U3],nn,λb _=>[⟨b 0,cp (j::m) (cn 8 b) 0,false⟩],nn,[⟨#[.ref l],[(d,k)]⟩],nn⟩,λb _=>qa u a.L c (.bytes (ow d j) (b 1))⟩
def vP(u:WB)(a:ik)(f:Nat)(d:AL)(c:fB)(g:cl):Seg:=let b:=qa u a.L f .none
 ⟨iW b,some (iV b (.send .none)),gc b,a.L,70,⟨uE (Pm u) a c f a.xs.size [g] d,[],λe _=>[jG (Pm u) a c,cp [g] d 0,k6 a.xs.size,cm a.xs a.U3],nn,nn,nn,[],nn⟩,λe _=>uz u a.L (.bytes #[10] (e 0))⟩
def vQ(u:WB)(a:ik)(h b k e:Nat)(j:Wy cl)(c:AL)(g:fB)(i:cl):Seg:=let f:=xC u a.L h b .none
 ⟨iW f,some (iV f (.send .none)),gc f,a.L,70,⟨nx (Pm u) a g b k e j c,[],λd _=>[jG (Pm u) a (kn g i (d 1) (c e)),dp k b (e+1:Nat),cp j c 0],nn,nn,nn,[],nn⟩,λd _=>xC u a.L h b (.bytes (yg i) (d 0))⟩
def vR(u:WB)(a:ik)(c i m j o:Nat)(d:Wy cl)(h:AL)(g:fB)(e l k:cl)(n:Wy cl):Seg:=let f:=xC u a.L c j .none
 ⟨iW f,some (iV f (.send .none)),gc f,a.L,70,⟨nB (Pm u) a g c i j o d.length d h,[],λb _=>[jG (Pm u) a (hj g e l b),k6 d.length,cp d h 0,dp a.hl c (i+1:Nat),cm a.xs a.U3],nn,λb _=>[⟨b 0,cp (k::n) (cn 8 b) 0,false⟩],nn,[⟨#[.ref m],[(e,l)]⟩],nn⟩,λb _=>qa u a.L c (.bytes (ow e k) (b 1))⟩
def vS(u:WB)(a:ik)(g h i:Nat)(b:Wy cl)(e:AL)(d:fB):Seg:=let c:=xC u a.L g h .none
 ⟨iW c,some (iV c (.send .none)),gc c,a.L,70,⟨nB (Pm u) a d g a.xs.size h i b.length b e,[],λf _=>[jG (Pm u) a d,k6 b.length,cp b e 0,k6 a.xs.size,cm a.xs a.U3],nn,nn,nn,[],nn⟩,λf _=>uz u a.L (.bytes #[10] (f 0))⟩
def DC(u:WB)(a:ik)(c:fB):Seg:=let b:=uz u a.L .none
 ⟨iW b,some (iV b (.send .none)),gc b,a.L,70,⟨[⟨a.L,jG (Pm u) a c,true⟩],[],λd _=>[jG (Pm u) a c],nn,nn,nn,[],nn⟩,λd _=>N1 u a.L (.bytes a.body a.tb)⟩
def z5(u:WB)(a:ik)(c:fB):Seg:=let b:=uz u a.L .none
 ⟨iW b,some (iV b (.send .none)),gc b,a.L,70,⟨[⟨a.L,jG (Pm u) a c,true⟩],[],λd _=>[jG (Pm u) a c],nn,nn,nn,[],nn⟩,λd _=>.ret (.ok (.ret .none))⟩
def z6(u:WB)(a:ik)(c:fB):Seg:=let b:=N1 u a.L .none
 ⟨iW b,some (iV b (.send .none)),gc b,a.L,70,⟨[⟨a.L,jG (Pm u) a c,true⟩],[],λd _=>[jG (Pm u) a c],nn,nn,nn,[],nn⟩,λd _=>.ret (.ok (.ret .none))⟩
def N6(u:WB)(a:ik)(f:Nat)(c e d:cl)(g:Wy cl):Seg:=
 ⟨jl a.L,none,[],a.L,80,⟨[⟨a.L,jG (Pm u) a fz,true⟩,⟨a.hl,cm a.xs a.U3,false⟩],[],λb _=>[jG (Pm u) a (hj fz c e (cy b)),cm a.xs a.U3],nn,λb _=>[⟨b 0,dp a.hl (b 0) 1,false⟩,⟨b 1,cp (d::g) (cn 9 b) 0,false⟩],nn,[⟨#[.ref f],[(c,e)]⟩],nn⟩,λb _=>qa u a.L (b 0) (.bytes (ow c d) (b 2))⟩
def dg(i:fB):Prop:=(∃a h b d c f g e,i=⟨e,.one a h b d c f g⟩)\/(∃a h k b d c j f g e l,i=⟨e,.two a h k b d c j f g l⟩)
theorem z7(i:a.xs[o]?=some (.ref b))(f:RowW m n l A):fj u (uB u a c o b ⟨d,.zero⟩ m n l A):=have h:cq u (o2 a c o b m n l A):=nA i f;have g:sr u []:=cg;sT Tc [[1,2],[],[0],[]] [2,1,0,6] (dT [55,69,49,51,57,27,35] λe=>dI (cn 27 (odd e))) h (O:=_) (Q:=g)
theorem z8{v1:cl}(s:a.xs[o]?=some (.ref b))(p:RowW m n l A):fj u (uB u a c o b ⟨d,.one k v1 e g f h i⟩ m n l A):=have r:cq u (o2 a c o b m n l A):=nA s p;have q:sr u []:=cg;sT Tc [[1,2],[],[0],[]] [2,1,0,6] (dT [55,69,0,0,0,27,35] λj=>dI (cn 27 (odd j))) r (O:=_) (Q:=q)
variable {r t:Nat} {s:cl}
theorem z9{v1:cl}(w:a.xs[o]?=some (.ref b))(p:RowW m n l A):fj u (uB u a c o b ⟨d,.two k v1 s e g f r h i t⟩ m n l A):=have v:cq u (o2 a c o b m n l A):=nA w p;have q:sr u []:=cg;sT Tc [[1,2],[],[0],[]] [2,1,0,6] (dT [55,69,0,0,0,27,35] λj=>dI (cn 27 (odd j))) v (O:=_) (Q:=q)
variable {d:fB}
theorem uF(f:a.xs[o]?=some (.ref b))(e:RowW m n l A):fj u (uB u a c o b d m n l A):=by
 obtain⟨g,d⟩:=d;cases d
 ·exact z7 f e
 ·exact z8 f e
 ·exact z9 f e
theorem uw{v1:cl}{d:Nat}:fj u (z4 u a c ⟨d,.one k v1 e g f h i⟩):=by
 have m:cq u [λb n j=>jM c a.hl a.xs.size a.xs a.U3]:=⟨λb n j=>fP (by simp),cg⟩
 have l:sr u []:=cg;exact sT 0x12012210 [[1,2]] [2,1,0] (cJ [1]) m (O:=_) (Q:=l)
theorem DE{v1:cl}{d:Nat}:fj u (z4 u a c ⟨d,.two k v1 s e g f r h i t⟩):=by
 have m:cq u [λb n j=>jM c a.hl a.xs.size a.xs a.U3]:=⟨λb n j=>fP (by simp),cg⟩
 have l:sr u []:=cg;exact sT 0x12012210 [[1,2]] [2,1,0] (cJ [1]) m (O:=_) (Q:=l)
theorem Aa(e:dg d):fj u (z4 u a c d):=by
 rcases e with⟨b,v1,f,h,g,j,k,i,rfl⟩|⟨b,v1,m,f,h,g,l,j,k,i,n,rfl⟩
 ·exact uw
 ·exact DE
variable {q:cl} {p:Nat}
theorem DF{v1:cl}{d:Nat}(l:C[b]?=some q)(s:q.size<=100000):fj u (uC u a c j p b C y ⟨d,.one k v1 e g f h i⟩ q):=by
 have n:cq u (vL j p b C y q):=⟨λo t r=>iy (by rw[iI,l];rfl),eG (by show 1+_<=_;omega),eG (by rw[Array.size_append];show 1+_+1<=_;omega),cg⟩
 have m:sr u []:=cg;exact sT RC [[1,2],[],[]] [2,1,0] (cJ [11,1]) n (O:=_) (Q:=m)
theorem DG{v1:cl}{d:Nat}(l:C[b]?=some q)(w:q.size<=100000):fj u (uC u a c j p b C y ⟨d,.two k v1 s e g f r h i t⟩ q):=by
 have n:cq u (vL j p b C y q):=⟨λo x v=>iy (by rw[iI,l];rfl),eG (by show 1+_<=_;omega),eG (by rw[Array.size_append];show 1+_+1<=_;omega),cg⟩
 have m:sr u []:=cg;exact sT RC [[1,2],[],[]] [2,1,0] (cJ [11]) n (O:=_) (Q:=m)
theorem qd(h:dg d)(e:C[b]?=some q)(f:q.size<=100000):fj u (uC u a c j p b C y d q):=by
 rcases h with⟨g,v1,i,l,k,n,o,m,rfl⟩|⟨g,v1,s,i,l,k,r,n,o,m,t,rfl⟩
 ·exact DF e f
 ·exact DG e f
theorem Ab{v1:cl}{d:Nat}(z:a.xs[o]?=some (.ref b))(v:RowW m n l A):fj u (nC u a c o b j p C y ⟨d,.one k v1 e g f h i⟩ m n l A):=by
 have x:cq u [λq s r=>jM j p C.length ⟨d3 C y⟩ 0]:=⟨λq s r=>fP (by rw[iI];simp),cg⟩
 have w:sr u [λq s r=>uB u a c o b ⟨d,.one k v1 e g f h i⟩ m n l A]:=⟨λq s r=>uF z v,cg⟩
 exact sT 0x120122101 [[1,2]] [4,3,2,1,0,7] (dT [] λt=>dI (odd t)) x (O:=_) (Q:=w) (M:=[[2,5,6]]) (N:=[[]]) (V:=[[.UO 0]])
theorem Ac{v1:cl}{d:Nat}(H:a.xs[o]?=some (.ref b))(z:RowW m n l A):fj u (nC u a c o b j p C y ⟨d,.two k v1 s e g f r h i t⟩ m n l A):=by
 have G:cq u [λq w v=>jM j p C.length ⟨d3 C y⟩ 0]:=⟨λq w v=>fP (by rw[iI];simp),cg⟩
 have D:sr u [λq w v=>uB u a c o b ⟨d,.two k v1 s e g f r h i t⟩ m n l A]:=⟨λq w v=>uF H z,cg⟩
 exact sT 0x120122101 [[1,2]] [4,3,2,1,0,7] (dT [] λx=>dI (odd x)) G (O:=_) (Q:=D) (M:=[[2,5,6]]) (N:=[[]]) (V:=[[.UO 0]])
theorem mJ(h:dg d)(f:a.xs[o]?=some (.ref b))(e:RowW m n l A):fj u (nC u a c o b j p C y d m n l A):=by
 rcases h with⟨g,v1,i,q,k,s,t,r,rfl⟩|⟨g,v1,w,i,q,k,v,s,t,r,x,rfl⟩
 ·exact Ab f e
 ·exact Ac f e
theorem Ad{v1:cl}{d:Nat}:fj u (nD u a c j p C y ⟨d,.one k v1 e g f h i⟩):=by
 have o:cq u [λb m l=>jM j p C.length ⟨d3 C y⟩ 0]:=⟨λb m l=>fP (by rw[iI];simp),cg⟩
 have n:sr u [λb m l=>z4 u a c ⟨d,.one k v1 e g f h i⟩]:=⟨λb m l=>Aa (.inl ⟨_,_,_,_,_,_,_,_,rfl⟩),cg⟩
 exact sT 0x120122101 [[1,2]] [4,3,2,1,0] (cJ [1]) o (O:=_) (Q:=n) (M:=[[2,5,6]]) (N:=[[]]) (V:=[[]])
theorem Ae{v1:cl}{d:Nat}:fj u (nD u a c j p C y ⟨d,.two k v1 s e g f r h i t⟩):=by
 have o:cq u [λb m l=>jM j p C.length ⟨d3 C y⟩ 0]:=⟨λb m l=>fP (by rw[iI];simp),cg⟩
 have n:sr u [λb m l=>z4 u a c ⟨d,.two k v1 s e g f r h i t⟩]:=⟨λb m l=>Aa (.inr ⟨_,_,_,_,_,_,_,_,_,_,_,rfl⟩),cg⟩
 exact sT 0x120122101 [[1,2]] [4,3,2,1,0] (cJ [1]) o (O:=_) (Q:=n) (M:=[[2,5,6]]) (N:=[[]]) (V:=[[]])
theorem mK(e:dg d):fj u (nD u a c j p C y d):=by
 rcases e with⟨b,v1,f,h,g,k,l,i,rfl⟩|⟨b,v1,n,f,h,g,m,k,l,i,o,rfl⟩
 ·exact Ad
 ·exact Ae
theorem Af{v1:cl}{d:Nat}(q:m.size<=100000)(r:(l::m::A).length<=100000):fj u (vM u a c y ⟨d,.one k v1 e g f h i⟩ l m A):=by
 have p:cq u [Ge (l::m::A) y]:=⟨λb j n=>o1 (by simp[d3]) (by show(d3 _ y).length<=_;rw[d8];omega),cg⟩
 have o:sr u [λb j n=>uC u a c (hi b) (hu (ky j 1 0)) 0 (m::A) (cy y) ⟨d,.one k v1 e g f h i⟩ m]:=⟨λb j n=>qd (.inl ⟨_,_,_,_,_,_,_,_,rfl⟩) rfl q,cg⟩
 exact sT Td [[2,0]] [1,0,4,3] (cJ [5,9,3,2]) p (O:=_) (Q:=o) (M:=[[3,0,1]]) (N:=[[]]) (V:=[[]])
theorem Ag{v1:cl}{d:Nat}(q:m.size<=100000)(v:(l::m::A).length<=100000):fj u (vM u a c y ⟨d,.two k v1 s e g f r h i t⟩ l m A):=by
 have p:cq u [Ge (l::m::A) y]:=⟨λb j n=>o1 (by simp[d3]) (by show(d3 _ y).length<=_;rw[d8];omega),cg⟩
 have o:sr u [λb j n=>uC u a c (hi b) (hu (ky j 1 0)) 0 (m::A) (cy y) ⟨d,.two k v1 s e g f r h i t⟩ m]:=⟨λb j n=>qd (.inr ⟨_,_,_,_,_,_,_,_,_,_,_,rfl⟩) rfl q,cg⟩
 exact sT Td [[2,0]] [1,0,4,3] (cJ [5,9,3,2]) p (O:=_) (Q:=o) (M:=[[3,0,1]]) (N:=[[]]) (V:=[[]])
theorem DH(g:dg d)(e:m.size<=100000)(b:(l::m::A).length<=100000):fj u (vM u a c y d l m A):=by
 rcases g with⟨f,v1,h,j,i,n,o,k,rfl⟩|⟨f,v1,q,h,j,i,p,n,o,k,r,rfl⟩
 ·exact Af e b
 ·exact Ag e b
theorem Ah{v1:cl}{d:Nat}(x:a.xs[o]?=some (.ref b))(t:RowW m n l A):fj u (vN u a c o b y ⟨d,.one k v1 e g f h i⟩ q m n l A):=by
 have w:cq u [Ge [q] y]:=⟨λj p r=>o1 (by simp[d3]) (by show 1<=1000000;decide),cg⟩
 have v:sr u [λj p r=>nC u a c o b (hi j) (hu (ky p 1 0)) [] (cy y) ⟨d,.one k v1 e g f h i⟩ m n l A]:=⟨λj p r=>mJ (.inl ⟨_,_,_,_,_,_,_,_,rfl⟩) x t,cg⟩
 exact sT Td [[2,0]] [3,2,1,0,7] (dT [] λs=>dI (cn 1 (odd (cn 2 s)))) w (O:=_) (Q:=v) (M:=[[3,0,1,5,6]]) (N:=[[]]) (V:=[[.UO 0]])
theorem Ai{v1:cl}{d:Nat}(D:a.xs[o]?=some (.ref b))(x:RowW m n l A):fj u (vN u a c o b y ⟨d,.two k v1 s e g f r h i t⟩ q m n l A):=by
 have C:cq u [Ge [q] y]:=⟨λj p v=>o1 (by simp[d3]) (by show 1<=1000000;decide),cg⟩
 have z:sr u [λj p v=>nC u a c o b (hi j) (hu (ky p 1 0)) [] (cy y) ⟨d,.two k v1 s e g f r h i t⟩ m n l A]:=⟨λj p v=>mJ (.inr ⟨_,_,_,_,_,_,_,_,_,_,_,rfl⟩) D x,cg⟩
 exact sT Td [[2,0]] [3,2,1,0,7] (dT [] λw=>dI (cn 1 (odd (cn 2 w)))) C (O:=_) (Q:=z) (M:=[[3,0,1,5,6]]) (N:=[[]]) (V:=[[.UO 0]])
theorem DI(h:dg d)(f:a.xs[o]?=some (.ref b))(e:RowW m n l A):fj u (vN u a c o b y d q m n l A):=by
 rcases h with⟨g,v1,i,k,j,r,s,p,rfl⟩|⟨g,v1,v,i,k,j,t,r,s,p,w,rfl⟩
 ·exact Ah f e
 ·exact Ai f e
theorem Aj{v1:cl}{d:Nat}:fj u (vP u a c y ⟨d,.one k v1 e g f h i⟩ q):=by
 have n:cq u [Ge [q] y]:=⟨λb j l=>o1 (by simp[d3]) (by show 1<=1000000;decide),cg⟩
 have m:sr u [λb j l=>nD u a c (hi b) (hu (ky j 1 0)) [] (cy y) ⟨d,.one k v1 e g f h i⟩]:=⟨λb j l=>mK (.inl ⟨_,_,_,_,_,_,_,_,rfl⟩),cg⟩
 exact sT Td [[2,0]] [3,2,1,0] (cJ [5]) n (O:=_) (Q:=m) (M:=[[3,0,1,5,6]]) (N:=[[]]) (V:=[[]])
theorem Ak{v1:cl}{d:Nat}:fj u (vP u a c y ⟨d,.two k v1 s e g f r h i t⟩ q):=by
 have n:cq u [Ge [q] y]:=⟨λb j l=>o1 (by simp[d3]) (by show 1<=1000000;decide),cg⟩
 have m:sr u [λb j l=>nD u a c (hi b) (hu (ky j 1 0)) [] (cy y) ⟨d,.two k v1 s e g f r h i t⟩]:=⟨λb j l=>mK (.inr ⟨_,_,_,_,_,_,_,_,_,_,_,rfl⟩),cg⟩
 exact sT Td [[2,0]] [3,2,1,0] (cJ [5]) n (O:=_) (Q:=m) (M:=[[3,0,1,5,6]]) (N:=[[]]) (V:=[[]])
theorem DJ(e:dg d):fj u (vP u a c y d q):=by
 rcases e with⟨b,v1,f,h,g,j,k,i,rfl⟩|⟨b,v1,m,f,h,g,l,j,k,i,n,rfl⟩
 ·exact Aj
 ·exact Ak
theorem Al{v1:cl}{d:Nat}(n:C[b]?=some q)(s:q.size<=100000):fj u (vQ u a c j p b C y ⟨d,.one k v1 e g f h i⟩ q):=by
 have r:cq u []:=cg;have o:sr u [λl t m=>uC u a c j p b C y ⟨d,.one k v1 e g f h i⟩ q]:=⟨λl t m=>qd (.inl ⟨_,_,_,_,_,_,_,_,rfl⟩) n s,cg⟩
 exact sT 0x11 [] [2,1,0] (cJ [0,2]) r (O:=_) (Q:=o) (M:=[[0,1,2]]) (N:=[[]]) (V:=[[]])
theorem Am{v1:cl}{d:Nat}(n:C[b]?=some q)(w:q.size<=100000):fj u (vQ u a c j p b C y ⟨d,.two k v1 s e g f r h i t⟩ q):=by
 have v:cq u []:=cg;have o:sr u [λl x m=>uC u a c j p b C y ⟨d,.two k v1 s e g f r h i t⟩ q]:=⟨λl x m=>qd (.inr ⟨_,_,_,_,_,_,_,_,_,_,_,rfl⟩) n w,cg⟩
 exact sT 0x11 [] [2,1,0] (cJ [0,2]) v (O:=_) (Q:=o) (M:=[[0,1,2]]) (N:=[[]]) (V:=[[]])
theorem DK(h:dg d)(e:C[b]?=some q)(f:q.size<=100000):fj u (vQ u a c j p b C y d q):=by
 rcases h with⟨g,v1,i,l,k,n,o,m,rfl⟩|⟨g,v1,s,i,l,k,r,n,o,m,t,rfl⟩
 ·exact Al e f
 ·exact Am e f
theorem An{v1:cl}{d:Nat}(x:a.xs[o]?=some (.ref b))(t:RowW m n l A):fj u (vR u a c o b j p C y ⟨d,.one k v1 e g f h i⟩ m n l A):=by
 have w:cq u []:=cg;have v:sr u [λr z s=>nC u a c o b j p C y ⟨d,.one k v1 e g f h i⟩ m n l A]:=⟨λr z s=>mJ (.inl ⟨_,_,_,_,_,_,_,_,rfl⟩) x t,cg⟩
 exact sT 0x11 [] [4,3,2,1,0,5] (dT [] λq=>dI q) w (O:=_) (Q:=v) (M:=[[0,1,2,3,4]]) (N:=[[]]) (V:=[[.UO 0]])
theorem Ao{v1:cl}{d:Nat}(G:a.xs[o]?=some (.ref b))(x:RowW m n l A):fj u (vR u a c o b j p C y ⟨d,.two k v1 s e g f r h i t⟩ m n l A):=by
 have D:cq u []:=cg;have z:sr u [λv H w=>nC u a c o b j p C y ⟨d,.two k v1 s e g f r h i t⟩ m n l A]:=⟨λv H w=>mJ (.inr ⟨_,_,_,_,_,_,_,_,_,_,_,rfl⟩) G x,cg⟩
 exact sT 0x11 [] [4,3,2,1,0,5] (dT [] λq=>dI q) D (O:=_) (Q:=z) (M:=[[0,1,2,3,4]]) (N:=[[]]) (V:=[[.UO 0]])
theorem DL(h:dg d)(f:a.xs[o]?=some (.ref b))(e:RowW m n l A):fj u (vR u a c o b j p C y d m n l A):=by
 rcases h with⟨g,v1,i,q,k,s,t,r,rfl⟩|⟨g,v1,w,i,q,k,v,s,t,r,x,rfl⟩
 ·exact An f e
 ·exact Ao f e
theorem Ap{v1:cl}{d:Nat}:fj u (vS u a c j p C y ⟨d,.one k v1 e g f h i⟩):=by
 have n:cq u []:=cg;have m:sr u [λb o l=>nD u a c j p C y ⟨d,.one k v1 e g f h i⟩]:=⟨λb o l=>mK (.inl ⟨_,_,_,_,_,_,_,_,rfl⟩),cg⟩
 exact sT 0x11 [] [4,3,2,1,0] (cJ [0]) n (O:=_) (Q:=m) (M:=[[0,1,2,3,4]]) (N:=[[]]) (V:=[[]])
theorem Aq{v1:cl}{d:Nat}:fj u (vS u a c j p C y ⟨d,.two k v1 s e g f r h i t⟩):=by
 have n:cq u []:=cg;have m:sr u [λb o l=>nD u a c j p C y ⟨d,.two k v1 s e g f r h i t⟩]:=⟨λb o l=>mK (.inr ⟨_,_,_,_,_,_,_,_,_,_,_,rfl⟩),cg⟩
 exact sT 0x11 [] [4,3,2,1,0] (cJ [0]) n (O:=_) (Q:=m) (M:=[[0,1,2,3,4]]) (N:=[[]]) (V:=[[]])
theorem DM(e:dg d):fj u (vS u a c j p C y d):=by
 rcases e with⟨b,v1,f,h,g,k,l,i,rfl⟩|⟨b,v1,n,f,h,g,m,k,l,i,o,rfl⟩
 ·exact Ap
 ·exact Aq
theorem Ar{v1:cl}{d:Nat}(b:a.body.size=c+1)(o:a.body.size<=1000000):fj u (DC u a ⟨d,.one k v1 e g f h i⟩):=by
 have l:cq u [fl a.body ((c+1:Nat):Int)]:=⟨λm p n=>cN (by rw[b]) (by omega),cg⟩
 have j:sr u []:=cg;exact sT 0x1111 [[]] [0] (cJ []) l (O:=_) (Q:=j)
theorem As{v1:cl}{d:Nat}(b:a.body.size=c+1)(o:a.body.size<=1000000):fj u (DC u a ⟨d,.two k v1 s e g f r h i t⟩):=by
 have l:cq u [fl a.body ((c+1:Nat):Int)]:=⟨λm p n=>cN (by rw[b]) (by omega),cg⟩
 have j:sr u []:=cg;exact sT 0x1111 [[]] [0] (cJ []) l (O:=_) (Q:=j)
theorem DN(g:dg d)(e:a.body.size=c+1)(b:a.body.size<=1000000):fj u (DC u a d):=by
 rcases g with⟨f,v1,h,j,i,l,m,k,rfl⟩|⟨f,v1,o,h,j,i,n,l,m,k,p,rfl⟩
 ·exact Ar e b
 ·exact As e b
theorem At{v1:cl}{d:Nat}(b:a.body.size=0):fj u (z5 u a ⟨d,.one k v1 e g f h i⟩):=by
 have j:cq u [fl a.body 0]:=⟨λl n m=>cN (by rw[b];rfl) (by omega),cg⟩
 have c:sr u []:=cg;exact sT 0x111 [[]] [0] (cJ []) j (O:=_) (Q:=c)
theorem Au{v1:cl}{d:Nat}(b:a.body.size=0):fj u (z5 u a ⟨d,.two k v1 s e g f r h i t⟩):=by
 have j:cq u [fl a.body 0]:=⟨λl n m=>cN (by rw[b];rfl) (by omega),cg⟩
 have c:sr u []:=cg;exact sT 0x111 [[]] [0] (cJ []) j (O:=_) (Q:=c)
theorem DO(e:dg d)(b:a.body.size=0):fj u (z5 u a d):=by
 rcases e with⟨c,v1,f,h,g,j,k,i,rfl⟩|⟨c,v1,m,f,h,g,l,j,k,i,n,rfl⟩
 ·exact At b
 ·exact Au b
theorem Av{v1:cl}{d:Nat}:fj u (z6 u a ⟨d,.one k v1 e g f h i⟩):=have c:cq u []:=cg;have b:sr u []:=cg;sT 0x1 [] [0] (cJ []) c (O:=_) (Q:=b)
theorem Aw{v1:cl}{d:Nat}:fj u (z6 u a ⟨d,.two k v1 s e g f r h i t⟩):=have c:cq u []:=cg;have b:sr u []:=cg;sT 0x1 [] [0] (cJ []) c (O:=_) (Q:=b)
theorem DP(c:dg d):fj u (z6 u a d):=by
 rcases c with⟨b,v1,e,g,f,i,j,h,rfl⟩|⟨b,v1,l,e,g,f,k,i,j,h,m,rfl⟩
 ·exact Av
 ·exact Aw
theorem DQ(h:a.xs[0]?=some (.ref b))(f:RowW m n l A):fj u (N6 u a b m n l A):=by
 have g:sr u [λc i e=>uB u a (hi c) 0 b fz m n l A]:=⟨λc i e=>uF h f,cg⟩
 exact sT 0x11220121013 [] [1,0,2,3] (dT [0] λd=>dI (cn 1 d)) trivial (Y:=[]) (O:=_) (Q:=g) (M:=[[1,0,2]]) (N:=[[]]) (V:=[[.UO 0]])
end
section
def Ax(d b:Nat)(e f:Wz)(h:WI)(i:AL->WI)(S:Seg)(g:AL->Wz):Spec:=⟨um "generator.__next__" [.ref d],S.dep+30,none,⟨⟨d,ey b e f,false⟩::S.UM.pre,(b,h)::S.UM.UR,λa c=>ey b e f::S.UM.post a c,λa c=>i a::S.UM.UQ a c,S.UM.new,S.UM.UW,S.UM.UX,S.UM.US⟩,λa _=>uj (g a)⟩
theorem hN{a:WI}{S:Seg}{f:AL->Wz}(i:AL->WA (End×St))(o:fj u S)(n:ha a S)(l:∃j,(⟨S.fr,j,true⟩:cK)∈S.UM.pre/\ew j=true)(g:∀b,qY (cT (i b) .none)=true)(m:∀b,(cT (i b) .none).quiet=true)(h:∀b d,S.res b d=cT (i b) (f b)):OK u (Ax e c v x a (λb=>(cT (i b) .none).genState) S f):=by
 have k:OK u (yB e c v x a S):=l4 (gR _) o n l (λb d=>by rw[h,nr (g b)];exact m b) (λb d=>by rw[h];exact rL (g b))
 refine k.alt rfl rfl rfl rfl rfl rfl λb d=>⟨b,d, ?_,rfl, ?_,rfl,rfl,rfl⟩
 ·show Except.ok (Flow.ret (yv (S.res b d)))=_;rw[h,vB (g b)];rfl
 ·show(S.res b d).genState::_=_;rw[h,rK (g b)];rfl
def r2(u:WB)(a b:Nat):WI:=(cT (km u a b) .none).genState
def uG(u:WB)(a b c:Nat):WI:=(cT (lE u a b c) .none).genState
def r3(u:WB)(a:Nat):WI:=(cT (lF u a) .none).genState
def DR(u:WB)(a:Nat):WI:=(cT (ny u a) .none).genState
def Th(a b c d:Nat):AL:=λe=>match e with
 |0=>a
 |1=>b
 |2=>c
 |_=>d
theorem RH{F:AL}(b:A.length<=4):d3 A F=d3 A (Th (F 0) (F 1) (F 2) (F 3)):=h5 _ _ _ λa c=>by
 match a,(show a<4 by omega)with
 |0,_=>rfl
 |1,_=>rfl
 |2,_=>rfl
 |3,_=>rfl
structure GN where
 (ga g:Nat)
 (nm qn:Wz)
def GN.oo(a:GN):gi:=ey a.g a.nm a.qn
def N7(a:AL):AL:=Th (a 7) (a 8) (a 9) (a 10)
def N8(b:cl)(c:Wy cl)(a:AL):Wy cK:=[⟨a 0,cp (b::c) (N7 a) 0,false⟩]
def N9(u:WB)(a:ik)(c:GN)(d i m:Nat)(h:AL)(f:fB)(j e l k:cl)(n:Wy cl):Spec:=
 ⟨um "generator.__next__" [.ref c.ga],100,none,⟨⟨c.ga,c.oo,false⟩::uE (Pm u) a f d i [j] h,[(c.g,r2 u a.L d)],λb _=>[c.oo,jG (Pm u) a (hj f e l b),cp [j] h 0,dp a.hl d (i+1:Nat),cm a.xs a.U3],λ_ _=>[r2 u a.L d],λb _=>N8 k n b,nn,[⟨#[.ref m],[(e,l)]⟩],nn⟩,λb _=>uj (.bytes (ow e k) (b 1))⟩
theorem mb(b:fB)(c d:cl)(a:AL):hj b c d a=hj b c d (cons (a 0) (cons (a 1) (cons (a 2) (cons (a 3) (cons (a 4) (cons (a 5) (cons (a 6) (cons (a 8) (cons (a 9) (cons (a 10) (cons (a 11) a))))))))))):=by obtain⟨e,b⟩:=b;cases b<;>rfl
theorem uH{al:AL}(a:(k::A).length<=4):[(⟨al 0,cp (k::A) (cn 8 al) 0,false⟩:cK)]=N8 k A (cons (al 0) (cons (al 1) (cons (al 2) (cons (al 3) (cons (al 4) (cons (al 5) (cons (al 6) (cons (al 8) (cons (al 9) (cons (al 10) (cons (al 11) al))))))))))):=by unfold N8 cp;rw[RH (F:=cn 8 al) a];rfl
variable {f:cl} {d:fB} {b:GN} {a:ik}
theorem DS(i:dg d)(r:a.xs[j]?=some (.ref e))(q:RowW l f k A)(p:(k::A).length<=4):OK u (N9 u a b c j e y d m l f k A):=by
 have o:OK u (Ax b.ga b.g b.nm b.qn (r2 u a.L c) _ (vN u a c j e y d m l f k A) λh=>.bytes (ow l k) (h 1)):=hN (λ_=>km u a.L c) (DI i r q) (dX (lG u a.L c) rfl rfl rfl) ⟨_,.head _,by rcases i with⟨_,_,_,_,_,_,_,_,rfl⟩|⟨_,_,_,_,_,_,_,_,_,_,_,rfl⟩<;>rfl⟩ (λ_=>lG u a.L c) (λ_=>z3 u a.L c) λh n=>rfl
 refine o.alt rfl rfl rfl rfl rfl rfl λh n=>⟨cons (h 0) (cons (h 1) (cons (h 2) (cons (h 3) (cons (h 4) (cons (h 5) (cons (h 6) (cons (h 8) (cons (h 9) (cons (h 10) (cons (h 11) h)))))))))),n,rfl, ?_,rfl,uH p,rfl,rfl⟩
 show[_,_,_,_,_]=[_,_,_,_,_];rw[mb];rfl
def Oa(u:WB)(a:ik)(c:GN)(d j n k p:Nat)(e:Wy cl)(i:AL)(h:fB)(f m l:cl)(o:Wy cl):Spec:=
 ⟨um "generator.__next__" [.ref c.ga],100,none,⟨⟨c.ga,c.oo,false⟩::nB (Pm u) a h d j k p e.length e i,[(c.g,uG u a.L d k)],λb _=>[c.oo,jG (Pm u) a (hj h f m b),k6 e.length,cp e i 0,dp a.hl d (j+1:Nat),cm a.xs a.U3],λ_ _=>[r2 u a.L d],λb _=>N8 l o b,nn,[⟨#[.ref n],[(f,m)]⟩],nn⟩,λb _=>uj (.bytes (ow f l) (b 1))⟩
theorem DT(n:dg d)(r:a.xs[j]?=some (.ref e))(q:RowW l f k A)(p:(k::A).length<=4):OK u (Oa u a b c j e h i C y d l f k A):=by
 have o:OK u (Ax b.ga b.g b.nm b.qn (uG u a.L c h) _ (vR u a c j e h i C y d l f k A) λm=>.bytes (ow l k) (m 1)):=hN (λ_=>km u a.L c) (DL n r q) (dX (nz u a.L c h) rfl rfl rfl) ⟨_,.head _,by rcases n with⟨_,_,_,_,_,_,_,_,rfl⟩|⟨_,_,_,_,_,_,_,_,_,_,_,rfl⟩<;>rfl⟩ (λ_=>lG u a.L c) (λ_=>z3 u a.L c) λm i=>rfl
 refine o.alt rfl rfl rfl rfl rfl rfl λm i=>⟨cons (m 0) (cons (m 1) (cons (m 2) (cons (m 3) (cons (m 4) (cons (m 5) (cons (m 6) (cons (m 8) (cons (m 9) (cons (m 10) (cons (m 11) m)))))))))),i,rfl, ?_,rfl,uH p,rfl,rfl⟩
 show[_,_,_,_,_,_]=[_,_,_,_,_,_];rw[mb];rfl
def Ob(u:WB)(a:ik)(c:GN)(h:Nat)(d f e:cl)(i:Wy cl):Spec:=
 ⟨um "generator.__next__" [.ref c.ga],110,none,⟨[⟨c.ga,c.oo,false⟩,⟨a.L,jG (Pm u) a fz,true⟩,⟨a.hl,cm a.xs a.U3,false⟩],[(c.g,.fresh (jl a.L))],λb _=>[c.oo,jG (Pm u) a (hj fz d f (cy b)),cm a.xs a.U3],λb _=>[r2 u a.L (b 0)],λb _=>⟨b 0,dp a.hl (b 0) 1,false⟩::N8 e i (cy b),nn,[⟨#[.ref h],[(d,f)]⟩],nn⟩,λb _=>uj (.bytes (ow d e) (b 2))⟩
theorem DU(m:a.xs[0]?=some (.ref e))(j:RowW l f k A)(i:(k::A).length<=4):OK u (Ob u a b e l f k A):=by
 have h:OK u (Ax b.ga b.g b.nm b.qn (.fresh (jl a.L)) _ (N6 u a e l f k A) λc=>.bytes (ow l k) (c 2)):=hN (λc=>km u a.L (c 0)) (DQ m j) (.inl ⟨rfl,rfl,rfl⟩) ⟨_,.head _,rfl⟩ (λc=>lG u a.L (c 0)) (λc=>z3 u a.L (c 0)) λc d=>rfl
 refine h.alt rfl rfl rfl rfl rfl rfl λc d=>⟨cons (c 0) (cons (c 1) (cons (c 2) (cons (c 3) (cons (c 4) (cons (c 5) (cons (c 6) (cons (c 7) (cons (c 9) (cons (c 10) (cons (c 11) (cons (c 12) c))))))))))),d,rfl,rfl,rfl, ?_,rfl,rfl⟩
 have:=uH (al:=cy c) i;exact congrArg (List.cons _) this
def Oc(u:WB)(d:ik)(a:GN)(c:Nat)(h:AL)(f:fB)(i e:cl)(j:Wy cl):Spec:=Ax a.ga a.g a.nm a.qn (r2 u d.L c) (λb=>uG u d.L c (b 2)) (vM u d c h f i e j) λb=>.bytes (yg e) (b 0)
theorem fu{b:WC}(c:dg d):ew (p9 b a.hl a.kh a.kb a.body a.tb d)=true:=by rcases c with⟨_,_,_,_,_,_,_,_,rfl⟩|⟨_,_,_,_,_,_,_,_,_,_,_,rfl⟩<;>rfl
theorem DV(f:dg d)(h:l.size<=100000)(g:(k::l::A).length<=100000):OK u (Oc u a b c y d k l A):=
 hN (λe=>lE u a.L c (e 2)) (DH f h g) (dX (lG u a.L c) rfl rfl rfl) ⟨_,.head _,fu f⟩ (λe=>nz u a.L c (e 2)) (λe=>Gf u a.L c (e 2)) λe i=>rfl
def Od(u:WB)(b:ik)(a:GN)(d:Nat)(f:AL)(e:fB)(h:cl):Spec:=Ax a.ga a.g a.nm a.qn (r2 u b.L d) (λc=>r3 u b.L) (vP u b d f e h) λc=>.bytes #[10] (c 0)
theorem DW(f:dg d):OK u (Od u a b c y d m):=
 hN (λe=>lF u a.L) (DJ f) (dX (lG u a.L c) rfl rfl rfl) ⟨_,.head _,fu f⟩ (λe=>qc u a.L) (λe=>Gg u a.L) λe g=>rfl
def Oe(u:WB)(d:ik)(a:GN)(b c l j:Nat)(k:Wy cl)(i:AL)(h:fB)(f:cl):Spec:=Ax a.ga a.g a.nm a.qn (uG u d.L b c) (λe=>uG u d.L b c) (vQ u d b c l j k i h f) λe=>.bytes (yg f) (e 0)
theorem DX(g:dg d)(j:C[e]?=some m)(k:m.size<=100000):OK u (Oe u a b c h i e C y d m):=
 hN (λf=>lE u a.L c h) (DK g j k) (dX (nz u a.L c h) rfl rfl rfl) ⟨_,.head _,fu g⟩ (λf=>nz u a.L c h) (λf=>Gf u a.L c h) λf i=>rfl
def Of(u:WB)(b:ik)(a:GN)(d e j:Nat)(i:Wy cl)(h:AL)(f:fB):Spec:=Ax a.ga a.g a.nm a.qn (uG u b.L d e) (λc=>r3 u b.L) (vS u b d e j i h f) λc=>.bytes #[10] (c 0)
theorem DY(f:dg d):OK u (Of u a b c h i C y d):=
 hN (λe=>lF u a.L) (DM f) (dX (nz u a.L c h) rfl rfl rfl) ⟨_,.head _,fu f⟩ (λe=>qc u a.L) (λe=>Gg u a.L) λe i=>rfl
def Ti(u:WB)(a:ik)(b:GN)(c:fB):Spec:=Ax b.ga b.g b.nm b.qn (r3 u a.L) (λd=>DR u a.L) (DC u a c) λd=>.bytes a.body a.tb
theorem H6(f:dg d)(h:a.body.size=c+1)(g:a.body.size<=1000000):OK u (Ti u a b d):=
 hN (λe=>ny u a.L) (DN f h g) (dX (qc u a.L) rfl rfl rfl) ⟨_,.head _,fu f⟩ (λe=>z0 u a.L) (λe=>N5 u a.L) λe i=>rfl
theorem H7(c:dg d)(e:a.body.size=0):OK u (hy b.ga b.g b.nm b.qn (r3 u a.L) (z5 u a d)):=
 j9 (gR _) (DO c e) (dX (qc u a.L) rfl rfl rfl) ⟨_,.head _,fu c⟩ λf h=>rfl
theorem H8(c:dg d):OK u (hy b.ga b.g b.nm b.qn (DR u a.L) (z6 u a d)):=
 j9 (gR _) (DP c) (dX (z0 u a.L) rfl rfl rfl) ⟨_,.head _,fu c⟩ λe f=>rfl
end
section
open PySem.Calls
section
variable {R:Type} (K:Nat->WA gi) (X:gj) (G:Setting) (nxt:Wz->Sem (WA Wz))
def RI(l:IH R)(f:Nat)(e:Cx)(d h:Nat)(j:Wz)(c:ug)(g:Nat)(p:St)(k:WH->St->WA R):WA R:=
 l.t f e (nxt (.ref h)) p λm a=>match m with
  | .ok none=>k (.ok (.ret j)) a
  | .ok (some q)=>match a.UT with
   |i::os=>match cellAt a.led i with
    |some b=>match b.fr with
     |false=>f9 f e (.builtin "list.extend.loop" ⟨[.ref d,.ref h,j],[]⟩) ⟨da a.led i (cm (c.push q) (g+1)),a.gl,a.al,a.sl,os,a.use,a.UN,a.bl,.n b.addr d:: .o b.obj (cm c g)::a.lg⟩ os k
     |true=>none
    |none=>none
   |[]=>none
  | .error _=>none
end
def jO(S:Spec):ug:=match S.UM.pre with
 |c::_=>(match c.obj.data with| .seq a _=>a|_=> #[])
 |[]=> #[]
def mq(S:Spec):Nat:=match S.UM.pre with
 |c::_=>(match c.obj.data with| .seq _ a=>a|_=>0)
 |[]=>0
def uI(c:Code):Wz:=((lW c)[2]?).getD .none
def xD(u:WB)(S:Spec)(a:fF)(b:AL)(d:SL):WA (WH×St):=
 RI PySem.W.Fast.tw9404975358583537561 (iter (KB (W2 u)) XF ⟨PW,(Pm u)⟩ a.n) S.dep ⟨none,none⟩ (ad S.code 0) (ad S.code 1) (uI S.code) (jO S) (mq S) (dd S.UM a.UT (dz a.us a.ps a.gs a.bs) (di a.ss a.U2 a.UY a.U1) b d) λc e=>some (c,e)
theorem ox:entryFor table "list.extend.loop" =some Builtin.«list.extend.loop»:=entryFor_of_tree (by kernel_rfl)
theorem Og{S:Spec}(b:fF)(t:uh)(r:uh)(H:Wy f8)(Y:AL->SL->AL)(a5:AL->SL->SL)
 (av:cq u b.us)(as:sr u b.ss)(aG:(jO S).size<=1000000)
 (a6:∀e h,Hq (xD u S b e h) t r H (S.res (Y e h) (a5 e h)) S.UM (Y e h) (a5 e h))
 (ah:S.code= .builtin "list.extend.loop" ⟨[.ref (ad S.code 0),.ref (ad S.code 1),uI S.code],[]⟩:=by rfl)(aH:S.top=none:=by rfl)(an:t.Nodup:=by decide)(ak:r.Nodup:=by decide)(ao:Hl S.UM:=by intro _ _;rfl)(al:Hg S.UM:=by intro _ _;rfl):OK u S:=by
 intro i R G D Z aa a9 ar l;have J:∀e h,Good (Gq S.res S.UM t r H) (xD u S b e h):=λe h=>by
  obtain⟨C,x,m,ax,ae⟩:=gM (a6 e h);exact⟨C,x,m,ax,_,_,ae⟩
 unfold xD at J;rw[<-l2,<-PySem.W.Fast.te9404975358583537561]at J;have gT:∀(I:WH->St->WA (WH×St)),dj I->dj (λ(a4:Except Wz (WA Wz)) a=>match a4 with
  | .ok none=>I (.ok (.ret (uI S.code))) a
  | .ok (some k)=>match a.UT with
   |o::v=>match cellAt a.led o with
    |some c=>match c.fr with
     |false=>f9 S.dep ⟨none,none⟩ (.builtin "list.extend.loop" ⟨[.ref (ad S.code 0),.ref (ad S.code 1),uI S.code],[]⟩) ⟨da a.led o (cm ((jO S).push k) (mq S+1)),a.gl,a.al,a.sl,v,a.use,a.UN,a.bl,.n c.addr (ad S.code 0):: .o c.obj (cm (jO S) (mq S))::a.lg⟩ v I
     |true=>none
    |none=>none
   |[]=>none
  | .error _=>none):=λI a0 a4 a aP g=>by
  try dsimp only at g
  split at g
  ·exact a0 _ _ _ g
  ·split at g
   ·split at g
    ·split at g
     ·exact cw.trans (λaJ aq=>.tail _ (.tail _ aq)) (gf a0 g)
     ·cases g
    ·cases g
   ·cases g
  ·cases g
 have L:dj (R0:=WH) (λ(j:WH) x=>some (j,x)):=λj x aF O=>by
  cases O;exact λ_ l=>l
 rw[ah];show codeAny _ _ (.builtin "list.extend.loop" ⟨[.ref (ad S.code 0),.ref (ad S.code 1),uI S.code],[]⟩) _ _;refine dY (by decide+kernel) ox ?_;have e1:i.in1.frames=i.frames:=rfl;have ai:=D.dep;have aw:=D.U9;have ay:oi i.in1 S.dep ⟨none,none⟩:=⟨D.hd,(λa7 l=>by cases l),by show i.depth+_<=_;omega,by show i.units+1+_<=_;omega⟩
 have ag:=m8 (W2 u);obtain⟨aE,aL,aM,aN⟩:=l1 (R0:=WH) (P:=PW) (w:=W2 u) (F:=Gq S.res S.UM t r H) ag b.n;have aB:Rep PW (W2 u) (KB (W2 u)) (cC i) (dd S.UM b.UT (dz b.us b.ps b.gs b.bs) (di b.ss b.U2 b.UY b.U1) (λ_=>0) (λ_=> #[])) G:=e5 _ _ ar aa a9 (λQ N=>av.mem _ (eC Q N)) (λQ N=>as.mem _ (ed Q N))
 have a2:∀{j:WH} {a:St} {s1:WF},(∀e h,Good (Gq S.res S.UM t r H) (some (j,a.w e h)))->Rep PW (W2 u) (KB (W2 u)) (cC i) a s1->cU (cC i) (dd S.UM b.UT (dz b.us b.ps b.gs b.bs) (di b.ss b.U2 b.UY b.U1) (λ_=>0) (λ_=> #[])) G a s1->R j s1:=λ{j a s1} f p q=>by
  obtain⟨C,x,m,_,a8,aD,T⟩:=f a.al a.sl;cases m;simp only[Prod.mk.injEq]at T;obtain⟨e1,e2,e3,ac⟩:=T;rw[e1];exact l a8 aD s1 (iq p q rfl rfl an ak (ao _ _) (al _ _) e2 e3 ac)
 show wpAny _ _ (pyNext (.ref (ad S.code 1))>>=_) _ _ G;refine ci ?_;refine aE S.dep ⟨none,none⟩ (pyNext (.ref (ad S.code 1))) (dd S.UM b.UT (dz b.us b.ps b.gs b.bs) (di b.ss b.U2 b.UY b.U1) (λ_=>0) (λ_=> #[])) _ (gT _ L) J i.in1 G _ _ ay (Z.under e1) (by rw[cB e1];exact aB) λj a s1 f p q=> ?_
 rw[cB e1]at p q;cases j with
 |error m=>exact(sb rfl (f a.al a.sl)).elim
 |ok C=>
  cases C with
  |none=>exact cj (a2 f p q)
  |some k=>
   dsimp only at f|-;rcases A:a.UT with _|⟨o,v⟩
   ·exact(sb (by simp only[St.w,A]) (f a.al a.sl)).elim
   ·cases s:cellAt a.led o with
    |none=>exact(sb (by simp only[St.w,A,s]) (f a.al a.sl)).elim
    |some c=>
     cases z:c.fr with
     |true=>exact(sb (by simp only[St.w,A,s,z]) (f a.al a.sl)).elim
     |false=>
      simp only[St.w,A,s,z]at f;have a3:=(f a.al a.sl).sub λaF O=>gf L O
      have X:c.addr=ad S.code 0:=a3 _ (.head _);have y:c.obj=cm (jO S) (mq S):=a3 _ (.tail _ (.head _));have ap:=t9 s;have M:=p.cell c ap;have a1:s1.heap.get? c.addr=some c.obj:=by
       unfold cR at M;rw[z]at M;exact M
      have aj:s1.heap.get? (ad S.code 0)=some (cm (jO S) (mq S)):=by rw[<-X,a1,y]
      have aI:(1000000:Nat)+1<=sizeLine:=by decide
      show wpAny _ _ (updateSeq (ad S.code 0) (·.push k)>>=_) _ _ s1;refine ci (wpAny_updateSeq aj rfl ?_ (by omega) (by show(Array.push _ _).size<=_;rw[Array.size_push];omega));refine cj ⟨by kernel_rfl, ?_⟩;have au:({s1 with heap:=s1.heap.update (ad S.code 0) (Obj.mapSeq (·.push k))}:WF)={s1 with heap:=s1.heap.update c.addr (Obj.mapSeq (·.push k))}:=by rw[X]
      rw[au];obtain⟨az,ab⟩:=gm (f:=Obj.mapSeq (·.push k)) (o':=cm ((jO S).push k) (mq S+1)) (st1:=⟨da a.led o (cm ((jO S).push k) (mq S+1)),a.gl,a.al,a.sl,v,a.use,a.UN,a.bl,.n c.addr (ad S.code 0):: .o c.obj (cm (jO S) (mq S))::a.lg⟩) p s a1 (by rw[y,gQ];rfl) (λl m=>by
       unfold cR;rw[z];rw[y,gQ]at m;exact m) (by rw[y];exact g0 _ _ _ (by rw[gQ];rfl)) rfl rfl rfl rfl
      have V:=q.trans ab;have aC:=hW (d:=S.dep) (cx:=⟨none,none⟩) (c:= .builtin "list.extend.loop" ⟨[.ref (ad S.code 0),.ref (ad S.code 1),uI S.code],[]⟩) (st:=⟨da a.led o (cm ((jO S).push k) (mq S+1)),a.gl,a.al,a.sl,v,a.use,a.UN,a.bl,.n c.addr (ad S.code 0):: .o c.obj (cm (jO S) (mq S))::a.lg⟩) (R:=R) L f ⟨D.hd,(λa7 l=>by cases l),ai,aw⟩ (Z.UU V) az λj aO aK af aA c3=>a2 af aA (V.trans c3)
      exact aC
end
section
open PySem.Calls
theorem xT{S:Spec}{a:Wy TU}(k:Nat)(l:Wy (uh))(g:uh)(f:AL->SL->AL)(w:cq u a)(o:(jO S).size<=1000000)(G:Wy (uh):=[])(J:Wy (Wy f8):=[])(I:uh:=[])(R:Wy f8:=[])(e:AL->SL->SL:=g4 [])(d:Wy TG:=[])(h i:Wy (uh):=[])(j:Wy (Wy f8):=[])(n:sr u d:=by trivial)
 (m:∀b c,Hq (xD u S ⟨2000,dc k,a,l,G,J,d,h,i,j⟩ b c) g I R (S.res (f b c) (e b c)) S.UM (f b c) (e b c):=by intro b x;show _=_;first|(obtain⟨y,b1,b2⟩:=u;cases b1<;>kernel_rfl)|(cases b1<;>kernel_rfl))
 (p:S.code= .builtin "list.extend.loop" ⟨[.ref (ad S.code 0),.ref (ad S.code 1),uI S.code],[]⟩:=by rfl)(v:S.top=none:=by rfl)(s:g.Nodup:=by decide)(q:I.Nodup:=by decide)(t:Hl S.UM:=by intro _ _;rfl)(r:Hg S.UM:=by intro _ _;rfl):OK u S:=
 Og ⟨2000,dc k,a,l,G,J,d,h,i,j⟩ g I R f e w n o m p v s q t r
end
section
inductive Ev where
 |cont (l:cl)
 |row (h v l0:cl) (ls:Wy cl)
def xE:fB->AL->Nat->Wy Ev->AL->fB
 |F,_,_,[],_=>F
 |F,c,d,.cont f::b,a=>xE (kn F f (a 1) (c d)) c (d+1) b (cn 4 a)
 |F,_,_,.row e g h i::b,a=>xE (hj F e g a) (cy (N7 a)) 0 b (cn 11 a)
def Ay(a:ug)(b:cl)(c:Nat):ug:=match b.size with
 |0=>a
 |_+1=>a.push (.bytes b c)
def r4(b:cl)(d:Nat):ug->Wy Ev->AL->ug
 |A,[],a=>Ay (A.push (.bytes #[10] (a 0))) b d
 |A,.cont f::c,a=>r4 b d (A.push (.bytes (yg f) (a 0))) c (cn 4 a)
 |A,.row e i g h::c,a=>r4 b d (A.push (.bytes (ow e g) (a 1))) c (cn 11 a)
def Qy(a:Nat)(b:cl):Nat:=match b.size with
 |0=>a
 |_+1=>a+1
def o3(b:cl):Nat->Wy Ev->Nat
 |a,[]=>Qy (a+1) b
 |a,_::c=>o3 b (a+1) c
def xF(a b:Nat):Code:= .builtin "list.extend.loop" ⟨[.ref a,.ref b,.none],[]⟩
structure LP where
 p:ik
 y:GN
 acc:Nat
 A:ug
 ep:Nat
 R:Wy dh
 it:Nat
def LP.push(a:LP)(b:Wz):LP:={a with A:=a.A.push b,ep:=a.ep+1}
def LP.VN(a:LP):Wy cK:=[⟨a.acc,cm a.A a.ep,false⟩,⟨a.y.ga,a.y.oo,false⟩]
def LP.Wf(a:LP)(b:Nat):Wy cK:=[⟨a.it,dp a.p.hl a.it b,false⟩,⟨a.p.hl,cm a.p.xs a.p.U3,false⟩]
def LP.postA(a:LP)(b:Wy Ev)(c:AL):uk:=[cm (r4 a.p.body a.p.tb a.A b c) (o3 a.p.body a.ep b),a.y.oo]
def LP.VS(a:LP):uk:=[k6 a.p.xs.size,cm a.p.xs a.p.U3]
def oy(u:WB)(a:LP)(h:Nat)(c:fB)(f:Wy cl)(b:AL)(e:Wy Ev):Spec:=
 ⟨xF a.acc a.y.ga,130,none,⟨a.VN++(uD (Pm u) a.p c f b++a.Wf h),[(a.y.g,r2 u a.p.L a.it)],λd _=>a.postA e d++([jG (Pm u) a.p (xE c (cy b) 0 e d),cp f b 0]++a.VS),λ_ _=>[.finished],nn,nn,[⟨a.p.xs,a.R⟩],nn⟩,λ_ _=>uj .none⟩
def r5(u:WB)(a:LP)(j:Nat)(d:fB)(h k i:Nat)(c:Wy cl)(b:AL)(f:Wy Ev):Spec:=
 ⟨xF a.acc a.y.ga,130,none,⟨a.VN++(nx (Pm u) a.p d h k i c b++a.Wf j),[(a.y.g,uG u a.p.L a.it h)],λe _=>a.postA f e++([jG (Pm u) a.p (xE d b i f e),k6 c.length,cp c b 0]++a.VS),λ_ _=>[.finished],nn,nn,[⟨a.p.xs,a.R⟩],nn⟩,λ_ _=>uj .none⟩
def LP.VO(c:WC)(a:LP)(b:fB):Wy cK:=a.VN++[⟨a.p.L,jG c a.p b,true⟩]
def H9(u:WB)(a:LP)(b:fB):Spec:=
 ⟨xF a.acc a.y.ga,130,none,⟨a.VO (Pm u) b,[(a.y.g,r3 u a.p.L)],λc _=>[cm (Ay a.A a.p.body a.p.tb) (Qy a.ep a.p.body),a.y.oo,jG (Pm u) a.p b],λ_ _=>[.finished],nn,nn,[],nn⟩,λ_ _=>uj .none⟩
def Oh(u:WB)(a:LP)(b:fB):Spec:=
 ⟨xF a.acc a.y.ga,130,none,⟨a.VO (Pm u) b,[(a.y.g,DR u a.p.L)],λc _=>[cm a.A a.ep,a.y.oo,jG (Pm u) a.p b],λ_ _=>[.finished],nn,nn,[],nn⟩,λ_ _=>uj .none⟩
variable {b:fB} {a:LP}
theorem Ia(f:dg b)(e:a.A.size<=1000000):OK u (Oh u a b):=by
 have h:cq u [λc i d=>hy a.y.ga a.y.g a.y.nm a.y.qn (DR u a.p.L) (z6 u a.p b)]:=⟨λc i d=>H8 f,cg⟩
 exact xT 0x1201221 [[1,2]] [2,1,0] (cJ []) h e (G:=[[0]]) (I:=[0])
def Oi(u:WB)(a:LP)(b:fB):Spec:=
 ⟨xF a.acc a.y.ga,130,none,⟨a.VO (Pm u) b,[(a.y.g,r3 u a.p.L)],λc _=>[cm (a.A.push (.bytes a.p.body a.p.tb)) (a.ep+1),a.y.oo,jG (Pm u) a.p b],λ_ _=>[.finished],nn,nn,[],nn⟩,λ_ _=>uj .none⟩
theorem DZ{n:Nat}(f:dg b)(i:a.p.body.size=n+1)(h:a.p.body.size<=1000000)(g:a.A.size<1000000):OK u (Oi u a b):=by
 have j:cq u [λc e d=>Ti u a.p a.y b,λc e d=>Oh u (a.push (.bytes a.p.body a.p.tb)) b]:=⟨λc e d=>H6 f i h,λc e d=>Ia f (by show(a.A.push _).size<=_;rw[Array.size_push];omega),cg⟩
 exact xT 0x1201220 [[1,2],[0,1,2]] [2,1,0] (cJ []) j (Nat.le_of_lt g) (G:=[[0],[0]]) (I:=[0])
def Oj(u:WB)(a:LP)(b:fB):Spec:=
 ⟨xF a.acc a.y.ga,130,none,⟨a.VO (Pm u) b,[(a.y.g,r3 u a.p.L)],λc _=>[cm a.A a.ep,a.y.oo,jG (Pm u) a.p b],λ_ _=>[.finished],nn,nn,[],nn⟩,λ_ _=>uj .none⟩
theorem D0(f:dg b)(h:a.p.body.size=0)(e:a.A.size<=1000000):OK u (Oj u a b):=by
 have i:cq u [λc j d=>hy a.y.ga a.y.g a.y.nm a.y.qn (r3 u a.p.L) (z5 u a.p b)]:=⟨λc j d=>H7 f h,cg⟩
 exact xT 0x1201221 [[1,2]] [2,1,0] (cJ []) i e (G:=[[0]]) (I:=[0])
theorem Az(g:dg b)(h:a.p.body.size<=1000000)(f:a.A.size<1000000):OK u (H9 u a b):=by
 cases c:a.p.body.size with
 |zero=>
  refine(D0 (u:=u) g c (Nat.le_of_lt f)).alt rfl rfl rfl rfl rfl rfl λd e=>⟨d,e,rfl, ?_,rfl,rfl,rfl,rfl⟩
  show[_,_,_]=[_,_,_];unfold Ay Qy;rw[c]
 |succ i=>
  refine(DZ (u:=u) (n:=i) g c h f).alt rfl rfl rfl rfl rfl rfl λd e=>⟨d,e,rfl, ?_,rfl,rfl,rfl,rfl⟩
  show[_,_,_]=[_,_,_];unfold Ay Qy;rw[c]
theorem nE(a:dg b)(d:cl)(c e:Nat):dg (kn b d c e):=by rcases a with⟨_,_,_,_,_,_,_,_,rfl⟩|⟨_,_,_,_,_,_,_,_,_,_,_,rfl⟩<;>exact .inr ⟨_,_,_,_,_,_,_,_,_,_,_,rfl⟩
theorem lH(c d:cl)(a:AL):dg (hj b c d a):=by
 obtain⟨e,b⟩:=b;cases b
 ·exact .inl ⟨_,_,_,_,_,_,_,_,rfl⟩
 ·exact .inl ⟨_,_,_,_,_,_,_,_,rfl⟩
 ·exact .inr ⟨_,_,_,_,_,_,_,_,_,_,_,rfl⟩
def nF(S:Spec)(a:Wy jz):Spec:=⟨S.code,S.dep,S.top,⟨S.UM.pre,S.UM.UR,S.UM.post,S.UM.UQ,S.UM.new,S.UM.UW,a,S.UM.US⟩,S.res⟩
def LP.Vs(a:LP)(b:Nat)(c d:cl):Wy jz:=[⟨a.p.xs,a.R⟩,⟨#[.ref b],[(c,d)]⟩]
variable {c:Wy Ev}
theorem D1(i:dg b)(q:l.size<=100000)(n:(k::l::C).length<=100000)(m:a.A.size<=1000000)(r:∀v h s t,dg h->OK u (r5 u (a.push v) d h s t 1 (l::C) (cy z) c)):OK u (oy u a d b (k::l::C) z (.cont l::c)):=by
 have o:cq u [λf g e=>Oc u a.p a.y a.it z b k l C,λf g e=>r5 u (a.push (.bytes (yg l) (cH e 0 0))) d (kn b l (cH e 0 1) (z 1)) (cH e 0 2) (cH e 0 3) 1 (l::C) (cy z) c]:=⟨λf g e=>DV i q n,λf g e=>r _ _ _ _ (nE i _ _ _),cg⟩
 exact xT 0x1201222 [[1,2,3],[2,3,4,0,1,6,7]] [5,4,3,2,1,0] (dT [0,2,4,6] λj=>dI (odd j)) o m (G:=[[0],[0]]) (J:=[[],[.UO 0]]) (I:=[0])
def Q8:uh:=[0,2,4,6,8,10,12,14,16,18,20]
theorem D2(s:dg b)(w:a.p.xs[d]?=some (.ref f))(t:RowW m n k C)(q:(k::C).length<=4)(r:a.A.size<=1000000)(x:∀D i j,dg i->OK u (oy u (a.push D) (d+1) i (k::C) j c)):OK u (nF (oy u a d b [l] z (.row m n k C::c)) (a.Vs f m n)):=by
 have v:cq u [λg h e=>N9 u a.p a.y a.it d f z b l m n k C,λg h e=>oy u (a.push (.bytes (ow m k) (cH e 0 1))) (d+1) (hj b m n (cH e 0)) (k::C) (N7 (cH e 0)) c]:=⟨λg h e=>DS s w t q,λg h e=>x _ _ _ (lH _ _ _),cg⟩
 exact xT 0x1201221 [[1,2,3,4,5],[1,2,3,0,5,6]] [5,4,3,2,1,0] (dT Q8 λo=>dI (odd o)) v r (G:=[[0],[0]]) (J:=[[.UO 1],[.UO 0]]) (I:=[0])
theorem D3(f:dg b)(h:a.p.body.size<=1000000)(j:a.A.size<900000):OK u (oy u a a.p.xs.size b [k] z []):=by
 have i:cq u [λd e c=>Od u a.p a.y a.it z b k,λd e c=>H9 u (a.push (.bytes #[10] (cH c 0 0))) b]:=⟨λd e c=>DW f,λd e c=>Az f h (by show(a.A.push _).size<_;rw[Array.size_push];omega),cg⟩
 exact xT 0x1201220 [[1,2,3,4,5],[0,1,2]] [5,4,3,2,1,0] (dT [0] λg=>dI (odd g)) i (by show a.A.size<=_;omega) (G:=[[0],[0]]) (I:=[0])
variable {e:Wy cl}
theorem D4(n:dg b)(r:e[f]?=some k)(t:k.size<=100000)(q:a.A.size<=1000000)(v:∀w m,dg m->OK u (r5 u (a.push w) d m g h (f+1) e z c)):OK u (r5 u a d b g h f e z (.cont k::c)):=by
 have s:cq u [λj l i=>Oe u a.p a.y a.it g h f e z b k,λj l i=>r5 u (a.push (.bytes (yg k) (cH i 0 0))) d (kn b k (cH i 0 1) (z f)) g h (f+1) e z c]:=⟨λj l i=>DX n r t,λj l i=>v _ _ (nE n _ _ _),cg⟩
 exact xT 0x1201220 [[1,2,3,4],[0,1,2,3,4,5,6]] [6,5,4,3,2,1,0] (dT [0,2,4,6] λo=>dI (odd o)) s q (G:=[[0],[0]]) (J:=[[],[.UO 0]]) (I:=[0])
theorem D5(v:dg b)(D:a.p.xs[d]?=some (.ref f))(w:RowW m n k C)(s:(k::C).length<=4)(t:a.A.size<=1000000)(G:∀H o q,dg o->OK u (oy u (a.push H) (d+1) o (k::C) q c)):OK u (nF (r5 u a d b g h e.length e z (.row m n k C::c)) (a.Vs f m n)):=by
 have x:cq u [λj l i=>Oa u a.p a.y a.it d f g h e z b m n k C,λj l i=>oy u (a.push (.bytes (ow m k) (cH i 0 1))) (d+1) (hj b m n (cH i 0)) (k::C) (N7 (cH i 0)) c]:=⟨λj l i=>DT v D w s,λj l i=>G _ _ _ (lH _ _ _),cg⟩
 exact xT 0x1201221 [[1,2,3,4,5,6],[1,2,3,0,6,7]] [6,5,4,3,2,1,0] (dT Q8 λr=>dI (odd r)) x t (G:=[[0],[0]]) (J:=[[.UO 1],[.UO 0]]) (I:=[0])
theorem D6(i:dg b)(k:a.p.body.size<=1000000)(m:a.A.size<900000):OK u (r5 u a a.p.xs.size b g h e.length e z []):=by
 have l:cq u [λd f c=>Of u a.p a.y a.it g h e z b,λd f c=>H9 u (a.push (.bytes #[10] (cH c 0 0))) b]:=⟨λd f c=>DY i,λd f c=>Az i k (by show(a.A.push _).size<_;rw[Array.size_push];omega),cg⟩
 exact xT 0x1201220 [[1,2,3,4,5,6],[0,1,2]] [6,5,4,3,2,1,0] (dT [0] λj=>dI (odd j)) l (by show a.A.size<=_;omega) (G:=[[0],[0]]) (I:=[0])
def Ib(u:WB)(a:LP)(d h e:cl)(f:Wy cl)(c:Wy Ev):Spec:=
 ⟨xF a.acc a.y.ga,130,none,⟨a.VN++[⟨a.p.L,jG (Pm u) a.p fz,true⟩,⟨a.p.hl,cm a.p.xs a.p.U3,false⟩],[(a.y.g,.fresh (jl a.p.L))],λb _=>a.postA (.row d h e f::c) (cy b)++[jG (Pm u) a.p (xE fz (λ_=>0) 0 (.row d h e f::c) (cy b)),cm a.p.xs a.p.U3],λ_ _=>[.finished],nn,nn,[⟨a.p.xs,a.R⟩],nn⟩,λ_ _=>uj .none⟩
theorem Ic(r:a.p.xs[0]?=some (.ref f))(o:RowW m n k C)(j:(k::C).length<=4)(l:a.A.size<=1000000)(s:∀t it g h,dg g->OK u (oy u {(a.push t)with it:=it} 1 g (k::C) h c)):OK u (nF (Ib u a m n k C c) (a.Vs f m n)):=by
 have q:cq u [λd e b=>Ob u a.p a.y f m n k C,λd e b=>oy u {(a.push (.bytes (ow m k) (cH b 0 2)))with it:=cH b 0 0} 1 (hj fz m n (cy (cH b 0))) (k::C) (N7 (cy (cH b 0))) c]:=⟨λd e b=>DU r o j,λd e b=>s _ _ _ _ (lH _ _ _),cg⟩
 exact xT 0x1201222 [[1,2,3],[2,3,4,1,0,5]] [3,2,1,0] (dT [0,2,4,6,8,10,12,14,16,18,20,22] λi=>dI (odd i)) q l (G:=[[0],[0]]) (J:=[[.UO 1],[.UO 0]]) (I:=[0])
end
section
open PySem.Calls
def oz{a:Type}(j:Nat)(i:Cx)(f g k:Nat)(l m:Wz)(b:St)(p:WH->St->WA a):WA a:=match b.UT with
 |e::h::os=>match cellAt b.led e,cellAt b.led h,Nat.beq e h with
  |some c,some d,false=>match c.fr,d.fr with
   |false,false=>f9 j i (.builtin "list.extend.loop" ⟨[.ref f,.ref g,.none],[]⟩) ⟨da b.led e (cm #[] 2),b.gl,b.al,b.sl,os,b.use,b.UN,b.bl,.n c.addr f:: .o c.obj (cm #[] 0):: .n d.addr g:: .o d.obj (ey k l m)::b.lg⟩ os p
   |_,_=>none
  |_,_,_=>none
 |_=>none
def qe(S:Spec)(b:Nat):Wz:=match S.UM.pre with
 |_::a::_=>(match a.obj.data with| .fields c=>(c.toList[b]?).getD .none|_=>.none)
 |_=>.none
def D7(S:Spec):Nat:=match qe S 0 with
 | .int (.ofNat a) _=>a
 |_=>0
def xG(u:WB)(S:Spec)(a:fF)(b:AL)(d:SL):WA (WH×St):=
 oz S.dep ⟨none,none⟩ (ad S.code 0) (ad S.code 1) (D7 S) (qe S 1) (qe S 2) (dd S.UM a.UT (dz a.us a.ps a.gs a.bs) (di a.ss a.U2 a.UY a.U1) b d) λc e=>some (c,e)
theorem nG:entryFor table "list.__init__" =some Builtin.«list.__init__»:=entryFor_of_tree (by kernel_rfl)
theorem Ol{S:Spec}(c:fF)(N:uh)(L:uh)(Y:Wy f8)(ag:AL->SL->AL)(ap:AL->SL->SL)
 (aO:cq u c.us)(aN:sr u c.ss)
 (ar:∀h j,Hq (xG u S c h j) N L Y (S.res (ag h j) (ap h j)) S.UM (ag h j) (ap h j))
 (aF:S.code= .builtin "list.__init__" ⟨[.ref (ad S.code 0),.ref (ad S.code 1)],[]⟩:=by rfl)(aZ:S.top=none:=by rfl)(aJ:N.Nodup:=by decide)(aH:L.Nodup:=by decide)(aK:Hl S.UM:=by intro _ _;rfl)(aI:Hg S.UM:=by intro _ _;rfl):OK u S:=by
 intro V R v a8 aD av au aM s;have J:∀h j,Good (Gq S.res S.UM N L Y) (xG u S c h j):=λh j=>by
  obtain⟨q,z,f,l,A⟩:=gM (ar h j);exact⟨q,z,f,l,_,_,A⟩
 unfold xG at J;have ai:dj (R0:=WH) (λ(r:WH) z=>some (r,z)):=λr z aT a4=>by
  cases a4;exact λ_ s=>s
 rw[aF];show codeAny _ _ (.builtin "list.__init__" ⟨[.ref (ad S.code 0),.ref (ad S.code 1)],[]⟩) _ _;generalize aX:ad S.code 0=af at J|-;generalize aY:ad S.code 1=ah at J|-;generalize D7 S=C,qe S 1=G,qe S 2=H at J;have T:Rep PW (W2 u) (KB (W2 u)) (cC V) (dd S.UM c.UT (dz c.us c.ps c.gs c.bs) (di c.ss c.U2 c.UY c.U1) (λ_=>0) (λ_=> #[])) v:=e5 _ _ aM av au (λaa a3=>aO.mem _ (eC aa a3)) (λaa a3=>aN.mem _ (ed aa a3))
 generalize a2:dd S.UM c.UT (dz c.us c.ps c.gs c.bs) (di c.ss c.U2 c.UY c.U1) (λ_=>0) (λ_=> #[])=a at T
 have p:∀h j,Good (Gq S.res S.UM N L Y) (oz S.dep ⟨none,none⟩ af ah C G H (a.w h j) λr z=>some (r,z)):=λh j=>by
  rw[<-a2];exact J h j
 have aL:a.led=S.UM.pre:=by rw[<-a2];rfl
 have aG:a.gl=S.UM.UR:=by rw[<-a2];rfl
 have aP:∀{r:WH} {I:St} {s1:WF},(∀h j,Good (Gq S.res S.UM N L Y) (some (r,I.w h j)))->Rep PW (W2 u) (KB (W2 u)) (cC V) I s1->cU (cC V) a v I s1->R r s1:=λ{r I s1} X a9 W=>by
  obtain⟨q,z,f,_,as,aS,ae⟩:=X I.al I.sl;cases f;simp only[Prod.mk.injEq]at ae;obtain⟨e1,e2,e3,ay⟩:=ae;rw[e1];exact s as aS s1 (iq a9 W aL aG aJ aH (aK _ _) (aI _ _) e2 e3 ay)
 rcases t:a.UT with _|⟨k,_|⟨a6,an⟩⟩
 ·exact(sb (by simp only[oz,St.w,t]) (p a.al a.sl)).elim
 ·exact(sb (by simp only[oz,St.w,t]) (p a.al a.sl)).elim
 ·cases m:cellAt a.led k with
  |none=>exact(sb (by simp only[oz,St.w,t,m]) (p a.al a.sl)).elim
  |some b=>
   cases y:cellAt a.led a6 with
   |none=>exact(sb (by simp only[oz,St.w,t,m,y]) (p a.al a.sl)).elim
   |some g=>
    cases D:Nat.beq k a6 with
    |true=>exact(sb (by simp only[oz,St.w,t,m,y,D]) (p a.al a.sl)).elim
    |false=>
     cases x:b.fr with
     |true=>exact(sb (by simp only[oz,St.w,t,m,y,D,x]) (p a.al a.sl)).elim
     |false=>
      cases a0:g.fr with
      |true=>exact(sb (by simp only[oz,St.w,t,m,y,D,x,a0]) (p a.al a.sl)).elim
      |false=>
       simp only[oz,St.w,t,m,y,D,x,a0]at p;have O:=(p a.al a.sl).sub λaT a4=>gf ai a4
       have az:b.addr=af:=O _ (.head _);have aB:b.obj=cm #[] 0:=O _ (.tail _ (.head _));have aA:g.addr=ah:=O _ (.tail _ (.tail _ (.head _)));have aC:g.obj=ey C G H:=O _ (.tail _ (.tail _ (.tail _ (.head _))));have cellOf:∀{e:Nat} {o:cK},cellAt a.led e=some o->o.fr=false->v.heap.get? o.addr=some o.obj:=λ{e o} f A=>by
        have:=T.cell o (t9 f);unfold cR at this;rw[A]at this;exact this
       have M:=cellOf m x;have aj:=cellOf y a0;have ak:b.addr≠g.addr:=λf=>by
        have:=hw (f:=λb:cK=>b.addr) T.nd (i:=k) (j:=a6) m y f
        rw[this]at D;exact absurd D (by simp[Nat.beq_refl])
       subst az aA;rw[aB]at M;rw[aC]at aj;have ab:(v.heap.update b.addr (Obj.mapSeq λ_=> #[])).get? b.addr=some (cm #[] 0):=Heap.get?_update_self _ M rfl
       have aq:((v.heap.update b.addr (Obj.mapSeq λ_=> #[])).update b.addr (Obj.mapSeq (·.push .none))).get? b.addr=some (cm #[.none] 1):=Heap.get?_update_self _ ab rfl
       have v1:(v.heap.update b.addr (Obj.mapSeq λ_=> #[])).get? g.addr=some (ey C G H):=(Heap.get?_update_ne _ _ _ _ (Ne.symm ak)).trans aj
       refine dY (by decide+kernel) nG ?_;show wpAny _ _ (Builtin.List.listItems (.ref b.addr)>>=_) _ _ v;refine ci (wpAny_listItems M rfl ?_);show wpAny _ _ (updateSeq b.addr (λ_=> #[])>>=_) _ _ v
       refine ci (wpAny_updateSeq M rfl ?_ (by decide) (by decide));refine ci (wpAny_letGo ?_);show wpAny _ _ (Builtin.List.listExtendWith (.ref b.addr) (.ref g.addr) .none) _ _ _;unfold Builtin.List.listExtendWith;refine ci (wpAny_typeOf (T:= "generator") ⟨_,v1,rfl⟩ ?_);have X:Builtin.List.listSameRef (.ref b.addr) (.ref g.addr)=false:=by simp[Builtin.List.listSameRef,ak]
       have aE:(Value.type "generator" ==Value.type "list")=false:=by decide
       have Z:(Value.type "generator" ==Value.type "tuple")=false:=by decide
       simp only[X,aE,Z,Bool.or_false,Bool.false_eq_true,if_false];refine ci (wpAny_pyIter_gen (g:=C) ?_ ?_)
       ·exact⟨_,G,H,v1,rfl,rfl,rfl⟩
       refine ci (wpAny_holding ?_);unfold Builtin.List.listLengthHint;refine ci (wpAny_specialOf (T:= "generator") ⟨_,v1,rfl⟩ F.gen_no_len ?_);show wpAny _ _ (specialOf (Value.ref g.addr) (Str.ofString "__length_hint__")>>=_) _ _ _;refine ci (wpAny_specialOf (T:= "generator") ⟨_,v1,rfl⟩ F.gen_no_hint ?_);refine cj ?_;show wpAny _ _ (rule "list.extend.makes-room" >>=λ_=>Builtin.List.listTouch (.ref b.addr)>>=λ_=>
        again (.builtin "list.extend.loop" ⟨[.ref b.addr,.ref g.addr,.none],[]⟩)) _ _ _
       refine ci (wpAny_rule ?_);refine ci ?_;show wpAny _ _ (updateSeq b.addr (·.push .none)>>=λ_=>updateSeq b.addr (·.pop)) _ _ _
       refine ci (wpAny_updateSeq ab rfl ?_ (by decide) (by decide));refine wpAny_updateSeq aq rfl ?_ (by decide) (by decide);refine cj ⟨by kernel_rfl, ?_⟩;have a7:∀(ac:ug) (P:Nat) (A:ug->ug),kF (cm ac P) (Obj.mapSeq A (cm ac P)):=λac P A=>g0 _ _ _ rfl
       obtain⟨a9,W⟩:=gm (f:=Obj.mapSeq λ_=> #[]) (o':=cm #[] 0) (st1:=⟨da a.led k (cm #[] 0),a.gl,a.al,a.sl,a.UT,a.use,a.UN,a.bl,a.lg⟩) T m M rfl (λs f=>by unfold cR;rw[x];exact f) (a7 _ _ _) rfl rfl rfl rfl
       have a1:∀{l:Wy cK} {e:Nat} {o:cK} {q:gi},cellAt l e=some o->cellAt (da l e q) e=some ⟨o.addr,q,o.fr⟩:=λ{l e o q}=>by
        intro f;induction l generalizing e with
        |nil=>cases f
        |cons aU l a5=>cases e with
         |zero=>cases f;rfl
         |succ e=>exact a5 f
       obtain⟨aQ,aw⟩:=gm (f:=Obj.mapSeq (·.push .none)) (o':=cm #[.none] 1) (st1:=⟨da (da a.led k (cm #[] 0)) k (cm #[.none] 1),a.gl,a.al,a.sl,a.UT,a.use,a.UN,a.bl,a.lg⟩) a9 (a1 m) ab rfl (λs f=>by unfold cR;rw[x];exact f) (a7 _ _ _) rfl rfl rfl rfl
       obtain⟨ao,ax⟩:=gm (f:=Obj.mapSeq (·.pop)) (o':=cm #[] 2) (st1:=⟨da (da (da a.led k (cm #[] 0)) k (cm #[.none] 1)) k (cm #[] 2),a.gl,a.al,a.sl,an,a.use,a.UN,a.bl,.n b.addr b.addr:: .o b.obj (cm #[] 0):: .n g.addr g.addr:: .o g.obj (ey C G H)::a.lg⟩) aQ (a1 (a1 m)) aq rfl (λs f=>by unfold cR;rw[x];exact f) (a7 _ _ _) rfl rfl rfl rfl
       have al:∀(l:Wy cK) (e:Nat) (q Q:gi),da (da l e q) e Q=da l e Q:=λl=>by
        induction l with
        |nil=>intro e q Q;rfl
        |cons aU l a5=>intro e q Q;cases e with
         |zero=>rfl
         |succ e=>show _::_=_::_;rw[a5]
       have yh:=(W.trans aw).trans ax;have e3:da (da (da a.led k (cm #[] 0)) k (cm #[.none] 1)) k (cm #[] 2)=da a.led k (cm #[] 2):=by rw[al,al]
       rw[e3]at ao yh;exact hW (d:=S.dep) (cx:=⟨none,none⟩) (c:= .builtin "list.extend.loop" ⟨[.ref b.addr,.ref g.addr,.none],[]⟩) (st:=⟨da a.led k (cm #[] 2),a.gl,a.al,a.sl,an,a.use,a.UN,a.bl,.n b.addr b.addr:: .o b.obj (cm #[] 0):: .n g.addr g.addr:: .o g.obj (ey C G H)::a.lg⟩) (R:=R) ai p ⟨a8.hd,(λaW s=>by cases s),a8.dep,a8.U9⟩ (aD.UU yh) ao λr b3 b0 Z aR c3=>aP Z aR (yh.trans c3)
end
section
open PySem.Calls
theorem iT{S:Spec}{Y:Wy TU}(j:Nat)(k:Wy (uh))(e:uh)(d:AL->SL->AL)(t:cq u Y)(G:Wy (uh):=[])(J:Wy (Wy f8):=[])(I:uh:=[])(h:Wy f8:=[])(Z:AL->SL->SL:=g4 [])(c:Wy TG:=[])(f g:Wy (uh):=[])(i:Wy (Wy f8):=[])(m:sr u c:=by trivial)
 (l:∀a b,Hq (xG u S ⟨2000,dc j,Y,k,G,J,c,f,g,i⟩ a b) e I h (S.res (d a b) (Z a b)) S.UM (d a b) (Z a b):=by intro a v;show _=_;first|(obtain⟨w,b1,b2⟩:=u;cases b1<;>kernel_rfl)|(cases b1<;>kernel_rfl))
 (n:S.code= .builtin "list.__init__" ⟨[.ref (ad S.code 0),.ref (ad S.code 1)],[]⟩:=by rfl)(s:S.top=none:=by rfl)(q:e.Nodup:=by decide)(o:I.Nodup:=by decide)(r:Hl S.UM:=by intro _ _;rfl)(p:Hg S.UM:=by intro _ _;rfl):OK u S:=
 Ol ⟨2000,dc j,Y,k,G,J,c,f,g,i⟩ e I h d Z t m l n s q o r p
end
section
def jX(b:Wy dh):Wy Ev->Wy cl->Nat->Prop
 |[],left,a=>left=[]/\a=b.length
 | .cont f::c,left,a=>∃h,left=f::h/\f.size<=100000/\jX b c h a
 | .row e i g d::c,left,a=>left=[]/\b[a]?=some (e,i)/\RowW e i g d/\(g::d).length<=4/\jX b c d (a+1)
variable {a:LP}
theorem lI(h:a.p.xs[d]?=some (.ref c))(g:a.R[d]?=some (k,l)):∀e:Heap,(∀B∈[(⟨a.p.xs,a.R⟩:jz)],dV e B)->∀B∈a.Vs c k l,dV e B:=λe f B b=>by
 rcases t6 b with rfl|b
 ·exact f _ (.head _)
 ·rw[List.mem_singleton]at b;subst b;exact(f _ (.head _)).at h g
theorem RJ{u:WB}:∀(d:Wy Ev),
  (∀(a:LP) (b:Nat) (F:fB) (y:cl) (left:Wy cl) (g:AL),jX a.R d left b->dg F->a.p.body.size<=1000000->a.A.size+d.length<900000->left.length<=1000->OK u (oy u a b F (y::left) g d))/\
  (∀(a:LP) (b:Nat) (F:fB) (s t e:Nat) (f:Wy cl) (g:AL),jX a.R d (f.drop e) b->e<=f.length->dg F->a.p.body.size<=1000000->a.A.size+d.length<900000->OK u (r5 u a b F s t e f g d))
 |[]=>by
  constructor
  ·intro a b F y left g c i j h k;obtain⟨rfl,H⟩:=c;refine ct.member (xs:=a.p.xs) (rows:=a.R) (.head _) λk x=> ?_
   have:b=a.p.xs.size:=by rw[H,k]
   subst this;exact D3 i j (by simpa using h)
  ·intro a b F s t e f g c T i j h;obtain⟨o,H⟩:=c;refine ct.member (xs:=a.p.xs) (rows:=a.R) (.head _) λk x=> ?_
   have:b=a.p.xs.size:=by rw[H,k]
   subst this;have:e=f.length:=by
    have:=congrArg List.length o;simp at this;omega
   subst this;exact D6 i j (by simpa using h)
 | .cont Y::d=>by
  obtain⟨M,N⟩:=RJ (u:=u) d;constructor
  ·intro a b F y left g c i j h k;obtain⟨O,rfl,L,c⟩:=c;have G:a.A.size+(d.length+1)<900000:=h;refine D1 i L (by simp at k|-;omega) (by omega) λz l s t m=>N _ b l s t 1 (Y::O) (cy g) c (by simp) m j ?_
   show(a.A.push _).size+_<_;rw[Array.size_push];omega
  ·intro a b F s t e f g c T i j h;obtain⟨O,o,L,c⟩:=c;have G:a.A.size+(d.length+1)<900000:=h;have P:f[e]?=some Y:=by
    have:=congrArg (·[0]?) o;simpa[List.getElem?_drop]using this
   have I:e<f.length:=by
    have:=congrArg List.length o;simp at this;omega
   refine D4 i P L (by omega) λz l m=>N _ b l s t (e+1) f g ?_ I m j ?_
   ·have:f.drop (e+1)=O:=by
     have:=congrArg (List.drop 1) o;simpa[List.drop_drop]using this
    rw[this];exact c
   ·show(a.A.push _).size+_<_;rw[Array.size_push];omega
 | .row Q z V W::d=>by
  obtain⟨M,N⟩:=RJ (u:=u) d;constructor
  ·intro a b F y left g c i j h k;obtain⟨rfl,n,x,w,c⟩:=c;have G:a.A.size+(d.length+1)<900000:=h;refine ct.member (xs:=a.p.xs) (rows:=a.R) (.head _) λk J=> ?_
   have I:b<a.R.length:=by
    rcases Nat.lt_or_ge b a.R.length with q|q
    ·exact q
    ·rw[List.getElem?_eq_none q]at n;cases n
   obtain⟨v,r⟩:∃v,a.p.xs[b]?=some v:=⟨a.p.xs[b]'(by omega),by simp[show b<a.p.xs.size by omega]⟩;obtain⟨D,rfl⟩:=J b v r;refine ct.more (bs:=a.Vs D Q z) (D2 (l:=y) i r x w (by omega) λX l C m=>M _ (b+1) l V W C c m j ?_ (by simp at w;omega)) (lI r n)
   show(a.A.push _).size+_<_;rw[Array.size_push];omega
  ·intro a b F s t e f g c T i j h;obtain⟨o,n,x,w,c⟩:=c;have G:a.A.size+(d.length+1)<900000:=h;have:e=f.length:=by
    have:=congrArg List.length o;simp at this;omega
   subst this;refine ct.member (xs:=a.p.xs) (rows:=a.R) (.head _) λk J=> ?_
   have I:b<a.R.length:=by
    rcases Nat.lt_or_ge b a.R.length with q|q
    ·exact q
    ·rw[List.getElem?_eq_none q]at n;cases n
   obtain⟨v,r⟩:∃v,a.p.xs[b]?=some v:=⟨a.p.xs[b]'(by omega),by simp[show b<a.p.xs.size by omega]⟩;obtain⟨D,rfl⟩:=J b v r;refine ct.more (bs:=a.Vs D Q z) (D5 i r x w (by omega) λX l C m=>M _ (b+1) l V W C c m j ?_ (by simp at w;omega)) (lI r n)
   show(a.A.push _).size+_<_;rw[Array.size_push];omega
theorem Ie{b:Wy Ev}(d:jX a.R (.row k l m C::b) [] 0)(o:a.p.body.size<=1000000)(t:a.A.size+b.length+1<900000):OK u (Ib u a k l m C b):=by
 obtain⟨_,c,r,g,d⟩:=d;refine ct.member (xs:=a.p.xs) (rows:=a.R) (.head _) λv s=> ?_
 have w:0<a.R.length:=by
  rcases Nat.lt_or_ge 0 a.R.length with q|q
  ·exact q
  ·rw[List.getElem?_eq_none q]at c;cases c
 obtain⟨f,e⟩:∃f,a.p.xs[0]?=some f:=⟨a.p.xs[0]'(by omega),by simp[show 0<a.p.xs.size by omega]⟩;obtain⟨j,rfl⟩:=s 0 f e;refine ct.more (bs:=a.Vs j k l) (Ic e r g (by omega) λy x h i n=>(RJ b).1 _ 1 h m C i d n o ?_ (by simp at g;omega)) (lI e c)
 show(a.A.push _).size+_<_;rw[Array.size_push];omega
def r6:Ev->cl
 | .cont b=>yg b
 | .row a e c d=>ow a c
def vT(a:cl):Wy cl:=match a.size with
 |0=>[#[10]]
 |_+1=>[#[10],a]
def h9(b:Wy Ev)(a:cl):Wy cl:=b.map r6++vT a
theorem qf{body:cl}{tb:Nat}:∀(c:Wy Ev) (b:ug) (a:AL),∃F:AL,r4 body tb b c a=b++(⟨d3 (h9 c body) F⟩:ug)
 |[],b,a=>by
  unfold r4 Ay h9 vT;cases h:body.size with
  |zero=>exact⟨λ_=>a 0,by apply Array.ext';simp[d3]⟩
  |succ j=>exact⟨cons (a 0) λ_=>tb,by apply Array.ext';simp[d3,cons,cy]⟩
 | .cont f::c,b,a=>by
  obtain⟨F,d⟩:=qf c (b.push (.bytes (yg f) (a 0))) (cn 4 a);exact⟨cons (a 0) F,by unfold r4;rw[d,gu];rfl⟩
 | .row e k g i::c,b,a=>by
  obtain⟨F,d⟩:=qf c (b.push (.bytes (ow e g) (a 1))) (cn 11 a);exact⟨cons (a 1) F,by unfold r4;rw[d,gu];rfl⟩
end
section
def Qz(a:Nat):Wz:= .str (lq "_format_message") a
def Tj(e:WC)(c:Nat)(b:cl)(d:Nat):Spec:=
 ⟨ul 405 [.ref c,.bytes b d],12,none,⟨[],[],nn,nn,λa _=>[⟨a 0,ey (a 1) (Qz (a 3)) (Qz (a 4)),false⟩,⟨a 2,p9 e c (a 5) (a 6) b d fz,true⟩],λa _=>[(a 1,.fresh (jl (a 2)))],[],nn⟩,λa _=>uj (.ref (a 0))⟩
theorem Gh:OK u (Tj (Pm u) a k c):=
 oT 0x100011111 [] [1,0] (dT [6,3,0,4,5,1,2] λb=>dI b) trivial (Y:=[]) (I:=[0])
def Uc(c:ik)(d:GN)(b:Nat)(a:Wy dh):LP:=⟨c,d,b,#[],2,a,0⟩
def Gi(c:WC)(a:ik)(b:GN):Wy cK:=[⟨b.ga,b.oo,false⟩,⟨a.L,jG c a fz,true⟩,⟨a.hl,cm a.xs a.U3,false⟩]
def AA(b:WC)(a:ik)(e:GN)(d:Wy Ev)(c:AL):uk:=[e.oo,jG b a (xE fz (λ_=>0) 0 d c),cm a.xs a.U3]
def RK(u:WB)(a:ik)(b:GN)(d:Nat)(f:Wy dh)(c:Wy Ev):Spec:=
 ⟨xF d b.ga,130,none,⟨⟨d,cm #[] 2,false⟩::Gi (Pm u) a b,[(b.g,.fresh (jl a.L))],λe _=>cp (h9 c a.body) (odd e) (o3 a.body 2 c)::AA (Pm u) a b c (cy (dI e)),λ_ _=>[.finished],nn,nn,[⟨a.xs,f⟩],nn⟩,λ_ _=>uj .none⟩
variable {b:Wy Ev} {d:GN} {a:ik}
theorem Ig(i:jX M (.row k m l A::b) [] 0)(h:a.body.size<=1000000)(n:b.length+1<900000):OK u (RK u a d c M (.row k m l A::b)):=by
 have f:OK u (Ib u (Uc a d c M) k m l A b):=Ie i h (by show 0+_+1<_;omega);refine f.alt rfl rfl rfl rfl rfl rfl λe j=> ?_
 obtain⟨F,g⟩:=qf (body:=a.body) (tb:=a.tb) (.row k m l A::b) #[] (cy e);refine⟨mR e F,j,rfl, ?_,rfl,rfl,rfl,rfl⟩;show[_,_,_,_]=[_,_,_,_];rw[ln,lr];refine cY ?_ rfl;show cm (r4 a.body a.tb #[] (.row k m l A::b) (cy e)) _=_;rw[g];show cm (#[]++_) _=cm _ _;rw[Array.empty_append];rfl
def Tk(u:WB)(a:ik)(b:GN)(d:Nat)(f:Wy dh)(c:Wy Ev):Spec:=
 ⟨um "list.__init__" [.ref d,.ref b.ga],140,none,⟨⟨d,cm #[] 0,false⟩::Gi (Pm u) a b,[(b.g,.fresh (jl a.L))],λe _=>cp (h9 c a.body) (odd e) (o3 a.body 2 c)::AA (Pm u) a b c (cy (dI e)),λ_ _=>[.finished],nn,nn,[⟨a.xs,f⟩],nn⟩,λ_ _=>uj .none⟩
theorem Om(i:OK u (RK u a d c M b)):OK u (Tk u a d c M b):=
 iT 0x101 [[0,1,2,3]] [3,2,1,0] (λe f=>dI e) ⟨λg j h=>i,cg⟩ (Y:=[λg j h=>RK u a d c M b]) (G:=[[0]]) (J:=[[.UO 0]]) (I:=[0]) (Z:=(λe f=>f))
end
def iJ(a:Nat):Env:=xi [54,7] (lq "Commit._serialize.<locals>.") 698 697 a []
def qg(a:Nat):Wy Stmt:=(inner (mj PW.main.body [54,7])).drop a
def RL(b a:Nat):Code:=zk [54,7,3] b (iJ a)
def r7(a:WC)(c b d e:Nat)(g:Wy WL)(f:Nat):gi:=ot (dx a "self" d (.ref c)::dx a "headers" e (.ref b)::g) f
def RM(d:Wy cl)(a b c:Nat):ug:=match d with
 |[]=> #[]
 |[_]=> #[.ref a]
 |[_,_]=> #[.ref a,.ref b]
 |_=> #[.ref a,.ref b,.ref c]
def r8(b:Nat)(e:Wy cl)(a d c:Nat):ug:= #[.ref b]++RM e a d c
def Oo(c:WC)(f:Wy cl)(b:AL)(d:Nat):Wy WL:=match f with
 |[]=>[]
 |e::a=>[dx c "p" d (.bytes (nw e a) (b a.length))]
def Op(a:Wy cl):Nat:=match a with
 |[]=>2
 |_=>3
def jP(b:Wy cl):Wy dh:=b.map λa=>(cE .parent,a)
def Tl(g:WC)(c h l m i n f d j k:Nat)(o:cl)(a:Wy cl)(e:AL):Spec:=
 ⟨RL i f,60,some f,⟨⟨f,r7 g c h l m [] 2,true⟩::pl [(i,dp n i 0),(n,cp a e j),(h,cm #[.ref d] k)],[],λb _=>[r7 g c h l m (Oo g a e (b 3)) (Op a),k6 a.length,cp a e j,cm (r8 d a (b 0) (b 1) (b 2)) (k+a.length)],nn,nn,nn,[⟨#[.ref d],[(cE .tree,o)]⟩],λb _=>[⟨r8 d a (b 0) (b 1) (b 2),(cE .tree,o)::jP a⟩]⟩,λ_ _=>.ok .next⟩
def Qw:Nat:=0x1320121223220013
theorem Gj{b:Nat}(l:A.length<=3):OK u (Tl (Pm u) c g i j h b a d e f k A y):=by
 match A,l with
 |[],_=>exact oT Qw [] [3,2,1,0] (cJ []) trivial (Y:=[]) (R:=[.UO 0])
 |[m],_=>exact oT 0x13201212232211144440100151555330131334330013 [] [3,2,1,0] (cJ [1,0,0,0]) trivial (Y:=[]) (R:=[.app (.UO 0) (.cells [2])])
 |[m,n],_=>exact oT 0x132012122322111444401001515553301313343322255550200161666340141445440013 [] [3,2,1,0] (cJ [1,3,0,0]) trivial (Y:=[]) (R:=[.app (.UO 0) (.cells [3,2])])
 |[m,n,o],_=>exact oT 0x1320121223221114444010240f533013133433222555502001616663401414454433366660300171777350151556550013 [] [3,2,1,0] (cJ [1,3,5,0]) trivial (Y:=[]) (R:=[.app (.UO 0) (.cells [4,3,2])])
 |_::_::_::_::_,l=>exact absurd l (by simp)
section
def d5(a:WC)(e:CM)(b:AL)(d:Wy WL)(c:Nat):gi:=fk (vI a e b++d) c
def Gk(a:WC)(c:CM)(b:AL):Wy WL:=[dx a "_tree" (b 10) c.tree,dx a "_message" (b 11) c.msg,dx a "_author" (b 12) c.UK,dx a "_author_time" (b 13) c.Vq,dx a "_author_timezone" (b 14) c.VE,dx a "_committer" (b 15) c.UL,dx a "_commit_time" (b 16) c.Vo,dx a "_commit_timezone" (b 17) c.Vy]
def Gl(a:WC)(c:CM)(b:AL):Wy WL:=[dx a "_tree" (b 10) c.tree,dx a "_author" (b 11) c.UK,dx a "_author_time" (b 12) c.Vq,dx a "_author_timezone" (b 13) c.VE,dx a "_committer" (b 14) c.UL,dx a "_commit_time" (b 15) c.Vo,dx a "_commit_timezone" (b 16) c.Vy,dx a "_message" (b 17) c.msg]
structure SX where
 (L c d hl k1 k2:Nat)
 tl:Wy WL
 n:Nat
 A:ug
 U3:Nat
 R:Wy dh
def SX.pre(e:WC)(a:SX)(b:gi):Wy cK:=[⟨a.L,r7 e a.c a.hl a.k1 a.k2 a.tl a.n,true⟩,⟨a.c,eu 888 a.d,false⟩,⟨a.d,b,false⟩,⟨a.hl,cm a.A a.U3,false⟩]
def SX.post(f:WC)(a:SX)(e:gi)(g:Nat)(b:ug):uk:=[r7 f a.c a.hl a.k1 a.k2 a.tl a.n,eu 888 a.d,e,cm b (a.U3+g)]
def r9(d:WC)(a:SX)(c:gi)(e:cl)(f:Wy Ev)(g:AL->AL):Spec:=
 ⟨.block (qg 17) (iJ a.L),160,some a.L,⟨a.pre d c,[],λb _=>a.post d c 0 a.A,nn,λb _=>[⟨b 0,cp (h9 f e) (g b) (o3 e 2 f),false⟩],nn,[⟨a.A,a.R⟩],nn⟩,λb _=>uj (.ref (b 0))⟩
def qh:AL->AL:=λa=>odd (cy a)
def Tn(b:WC)(c:cl):U:=λa e d=>Tj b (ad a 0) c (tk a 1)
def RN(u:WB)(b:SX)(d:cl)(f:Nat)(e:Wy Ev):U:=λc g a=>Tk u ⟨cH a 1 2,b.hl,cH a 1 5,cH a 1 6,d,f,b.A,b.U3⟩ ⟨ad c 1,cH a 1 1,Qz (cH a 1 3),Qz (cH a 1 4)⟩ (ad c 0) b.R e
def Ih(b:Wy dh)(a:Wy Ev):Prop:=jX b a [] 0/\a.length<=1000/\∃d g e f c,a= .row d g e f::c
variable {b:Wy Ev} {a:SX}
theorem AB(j:Ih a.R b)(i:k.size<=1000000):∀d f e,OK u (RN u a k c b d f e):=λd f e=>by
 obtain⟨g,h,m,p,n,o,l,rfl⟩:=j;exact Om (Ig g i (by simp at h;omega))
def H4:Nat:=0x1108f307f012000002203010111110112
variable {x:CM}
theorem D8{y:AL}{tb:Nat}(e:Ih a.R b)(d:k.size<=1000000):OK u (r9 (Pm u) a (d5 (Pm u) {x with msg:= .bytes k tb} y (Gk (Pm u) {x with msg:= .bytes k tb} y) 18) k b qh):=by
 have f:cq u [Tn (Pm u) k,Qx,RN u a k tb b]:=⟨λg i h=>Gh,uy,AB e d,cg⟩
 exact bT H4 [[],[],[0,1,2,6]] [3,2,1,0,6] (dT [2] λc=>dI (odd (odd (cn 1 c)))) f (G:=[[],[],[0]]) (J:=[[],[],[.UO 0]])
theorem D9{y:AL}{tb:Nat}(e:Ih a.R b)(d:k.size<=1000000):OK u (r9 (Pm u) a (d5 (Pm u) {x with msg:= .bytes k tb} y (Gl (Pm u) {x with msg:= .bytes k tb} y) 18) k b qh):=by
 have f:cq u [Tn (Pm u) k,Qx,RN u a k tb b]:=⟨λg i h=>Gh,uy,AB e d,cg⟩
 exact bT H4 [[],[],[0,1,2,6]] [3,2,1,0,6] (dT [2] λc=>dI (odd (odd (cn 1 c)))) f (G:=[[],[],[0]]) (J:=[[],[],[.UO 0]])
def qi(c:WA cl)(a:ug)(b:Nat):ug:=match c with
 |none=>a
 |some _=>a++ #[.ref b]
def optN(a:WA cl):Nat:=match a with
 |none=>0
 |some _=>1
def Ea(b:AL->AL):AL->AL:=λa=>b (cn 5 a)
def SX.app(a:SX)(c:Wz)(b:dh):SX:={a with A:=a.A++ #[c],U3:=a.U3+1,R:=a.R++[b]}
def jm(d:WC)(a:SX)(c:gi)(g:WA cl)(e:cl)(f:Wy Ev)(h:AL->AL):Spec:=
 ⟨.block (qg 16) (iJ a.L),165,some a.L,⟨a.pre d c,[],λb _=>a.post d c (optN g) (qi g a.A (b 1)),nn,λb _=>[⟨b 0,cp (h9 f e) (h b) (o3 e 2 f),false⟩],nn,[⟨a.A,a.R⟩],nn⟩,λb _=>uj (.ref (b 0))⟩
def H5:Nat:=0x11407f12600f010110df1101407f0130000033043
variable {e:AL->AL} {f:Wy WL} {c:CM}
theorem Eb(j:OK u (r9 (Pm u) a (d5 (Pm u) {c with sig:= .none} y f d) k b e)):OK u (jm (Pm u) a (d5 (Pm u) {c with sig:= .none} y f d) none k b (Ea e)):=
 bT H5 [[1,2,3,4]] [3,2,1,0,5] (dT [5,0,0,0,0] λg=>dI (cn 5 g)) ⟨λh l i=>j,cg⟩ (Y:=[λh l i=>r9 (Pm u) a (d5 (Pm u) {c with sig:= .none} y f d) k b e]) (J:=[[.UO 0]])
def JW:Nat:=0x11407f12f3bf23bfa19f330412555502307f13600f010110df1101407f014000004405001723
theorem Ec(q:l.size=h+1)(s:l.size<=1000000)(p:a.A.size<=1000000)(o:∀r,OK u (r9 (Pm u) (a.app r (cE .sig,l)) (d5 (Pm u) {c with sig:= .bytes l g} y f d) k b e)):OK u (jm (Pm u) a (d5 (Pm u) {c with sig:= .bytes l g} y f d) (some l) k b (Ea e)):=
 bT JW [[],[6],[3,4,5,6]] [3,2,1,0,7] (dT [20,16,0,0,0] λn=>dI (odd (cn 6 (odd (cn 5 n))))) ⟨λj i m=>cN (by rw[q]) (by omega),fU p,λj i m=>o _,cg⟩ (Y:=[fl l ((h+1:Nat):Int),mn a.A,λj i m=>r9 (Pm u) (a.app (l8 i 4 1) (cE .sig,l)) (d5 (Pm u) {c with sig:= .bytes l g} y f d) k b e]) (J:=[[],[],[.app (.UO 0) (.cells [0])]])
def SX.opt(a:SX)(c:WA cl)(b:cl)(e:Wz):SX:=match c with
 |none=>a
 |some d=>a.app e (b,d)
def ko(b:WA cl):Prop:=∀a,b=some a->a.size≠0/\a.size<=1000000
theorem AC(q:ko V)(o:a.A.size<=1000000)(i:c.sig=iX V g)(h:∀r,OK u (r9 (Pm u) (a.opt V (cE .sig) r) (d5 (Pm u) c y f d) k b e)):OK u (jm (Pm u) a (d5 (Pm u) c y f d) V k b (Ea e)):=by
 cases V with
 |none=>
  have l:c={c with sig:= .none}:=by cases c;simp only at i;subst i;rfl
  rw[l]at h|-;exact Eb (h .none)
 |some j=>
  have l:c={c with sig:= .bytes j g}:=by cases c;simp only at i;subst i;rfl
  rw[l]at h|-;obtain⟨s,n⟩:=q j rfl;obtain⟨m,p⟩:∃m,j.size=m+1:=⟨j.size-1,by omega⟩;exact Ec p n o h
end
section
open PySem.Calls
structure nH where
 o:Str
 p1:Pos
 name:Str
 apos:Pos
 elt:PySem.Expr
 g:Comprehension
 scope:Scope
 (p2 pos p0:Pos)
def nH.st(a:nH):Stmt:= .Expr (.Call (.Attribute (.Name a.o a.p1) a.name a.apos) [.GeneratorExp a.elt [a.g] a.scope a.p2] [] a.pos) a.p0
instance:Inhabited nH:=⟨⟨Str.ofString "",⟨0,0,0,0⟩,Str.ofString "",⟨0,0,0,0⟩,default,⟨default,default,[],0⟩,default,⟨0,0,0,0⟩,⟨0,0,0,0⟩,⟨0,0,0,0⟩⟩⟩
def jQ(j:Stmt):nH:=match j with
 | .Expr (.Call (.Attribute (.Name e g) d a) [.GeneratorExp b (c::_) k h] _ i) f=>⟨e,g,d,a,b,c,k,h,i,f⟩
 |_=>default
def AD(d:PySem.Expr->Env->Sem Wz)(f:Wz->Str->Sem Bool->Sem (Wz×ui))(h:PySem.Expr->Env->Sem (WA Bool))(e:Bool->Wy Comprehension->Env->Wz->Sem Wz)(k:Wz->Sem Wz)(a:nH)(b:Env):Sem ((Wz×ui)×Wz):=
 standAt a.p0>>=λ_=>d (.Name a.o a.p1) b>>=λj=>standAt a.apos.atName>>=λ_=>f j a.name (h (.Name a.o a.p1) b>>=λl=>pure (l.getD true))>>=λfx=>d a.g.iter b>>=λc=>standAt (firstIterPos [a.g] a.p2)>>=λ_=>e false [a.g] b c>>=λc=>k c>>=λi=>pure (fx,i)
def qj(h:Scope->Env->Sem (Wy (Str×Addr)))(j:Env->Pos->Str->Scope->Sem Wz)(e:Addr->Addr->Sem Addr)(l:Scope->Addr->Wy (Str×Addr)->Wy (Str×Wz)->Str->Wz->Addr->Sem Env)(m:Code->Str->Str->Sem Wz)(b:nH)(a:Env)(c:(Wz×ui)×Wz):Sem (Env×Wz):=
 h b.scope a>>=λi=>j a b.p2 (a.qual++Str.ofString "<genexpr>") b.scope>>=λcode=>e a.globals a.builtins>>=λf=>l b.scope a.globals i [(Str.ofString ".0",c.2)] (a.qual++Str.ofString "<genexpr>.") code f>>=λd=>m (.compStart (.GeneratorExp b.elt [b.g] b.scope b.p2) 0 c.2 .none d) (Str.ofString "<genexpr>") (a.qual++Str.ofString "<genexpr>")>>=λk=>pure (d,k)
def qk(c:Pos->Wz->ui->Wy (Bool×Sem Wz)->Sem Wz)(d:PySem.Expr->Pos->Wz->Sem Flow)(a:nH)(b:(Wz×ui)×Wz)(e:Wz):Sem Flow:=
 c a.pos b.1.1 b.1.2 [(false,pure e)]>>=λf=>d (.Call (.Attribute (.Name a.o a.p1) a.name a.apos) [.GeneratorExp a.elt [a.g] a.scope a.p2] [] a.pos) a.p0 f
def nI(e:nH)(b:Env):=AD eval (λd c a=>getMethod d c a) importBound genexprIterable pyIter e b
def ia(i:nH)(e:Env):=qj closureFor genexprCode builtinsFor (λh f d a g c b=>newFunctionEnv h f d a g none c none b) newGenerator i e
def hm(e:nH):=qk (λd b c a=>callWith d b c a []) dropValue e
variable {b:Model}
theorem ql{a:Ctx}{e d:Pos}{first:ui}{f:Sem Wz}{c:Wz->Pos->WF->Prop}{E:Wz->Pos->WF->Prop}:
  Sem.wp b a (callWith e v first [(false,f)] []) c E d I=Sem.wp b a f (λi g h=>Sem.wp b a (callWith e v first [(false,pure i)] []) c E g h) E d I:=by unfold callWith evalArgs;simp only[spliced,Sem.wp_bind',Sem.wp_holding,Sem.wp_pure',List.all_nil,if_true,Bool.false_eq_true,if_false];rfl
theorem Oq{a:nH}{c:Flow->WF->Prop}{E:Wz->WF->Prop}(T:interactive X=false)(P:swapsWith (.Call (.Attribute (.Name a.o a.p1) a.name a.apos) [.GeneratorExp a.elt [a.g] a.scope a.p2] [] a.pos) none a.p0.line X=pure false)(V:(a.apos.endLine==a.pos.line)=true)(M:a.scope.isCoroutine=false)(H:firstAsync [a.g]=false)(N:F.depth<recursionLimit)
 (n:wpAny b F (nI a X) (λh s1=>s1.heap.NoLimit/\wpAny b F (ia a X h) (λm l=>wpAny b F (hm a h m.2) c E l) E s1) E I):wpAny b F (exec a.st X) c E I:=by
 intro e Z f;have i:=n e Z f;unfold nH.st;rw[exec_Expr _ _ _ T P,arm_eval_Call];have J:attributeBase (.Name a.o a.p1) a.name X (eval (.Name a.o a.p1) X)=eval (.Name a.o a.p1) X:=rfl;have Q:methodCallForm ([PySem.Expr.GeneratorExp a.elt [a.g] a.scope a.p2].length+([]:Wy Keyword).length) (backTo a.pos (starEach [.GeneratorExp a.elt [a.g] a.scope a.p2] X)) (backToKw a.pos (keywordEach [] X))=true:=rfl;have W:methodCallPos true (.Name a.o a.p1) X a.apos a.pos=pure a.pos:=by unfold methodCallPos;simp[V]
 rw[J];unfold methodCall;rw[Q];simp only[nI,AD,Sem.wp_bind',Sem.wp_cmd_standAt,Sem.wp_pure']at i;simp only[Sem.wp_bind',Sem.wp_cmd_standAt,Sem.wp_holding];refine Sem.wp_mono b e _ (λab ac s1 p=> ?_) (λ_ _ _ d=>d) _ _ i
 refine Sem.wp_mono b e _ (λfx af l w=> ?_) (λ_ _ _ d=>d) _ _ p
 obtain⟨a8,first⟩:=fx;simp only[W,Sem.wp_pure'];have G:backTo a.pos (starEach [.GeneratorExp a.elt [a.g] a.scope a.p2] X)=[(false,eval (.GeneratorExp a.elt [a.g] a.scope a.p2) X)]:=rfl;have Y:backToKw a.pos (keywordEach [] X)=[]:=rfl;rw[G,Y,ql,arm_eval_GeneratorExp];have O:firstIter [a.g] X=eval a.g.iter X:=by cases a.g;rfl
 have L:clausesOf (.GeneratorExp a.elt [a.g] a.scope a.p2)=[a.g]:=rfl;simp only[O,L,H,M,Bool.false_eq_true,if_false,Sem.wp_bind',Sem.wp_cmd_standAt,Sem.wp_holding];refine Sem.wp_mono b e _ (λas ag al x=> ?_) (λ_ _ _ d=>d) _ _ w
 refine Sem.wp_mono b e _ (λau ah an y=> ?_) (λ_ _ _ d=>d) _ _ x
 refine Sem.wp_mono b e _ (λaa a1 a4 z=> ?_) (λ_ _ _ d=>d) _ _ y
 obtain⟨R,A⟩:=z;have C:=A;refine Sem.wp_mono b e _ (λ_ a2 ao D=> ?_) (λ_ _ _ d=>d) _ _ ((wpAny_enterFrame (M:=b) (A:=F) (E:=E) (Q:=λ_ a3=>a3=a4) R N rfl) e a1 f)
 subst D;have k:=C e a2 f;simp only[ia,qj,Sem.wp_bind',Sem.wp_pure']at k;refine Sem.wp_mono b e _ (λa7 p7 ap q=> ?_) (λ_ _ _ d=>d) _ _ k
 refine Sem.wp_mono b e _ (λcode ai aq r=> ?_) (λ_ _ _ d=>d) _ _ q
 refine Sem.wp_mono b e _ (λa5 aj ar s=> ?_) (λ_ _ _ d=>d) _ _ r
 refine Sem.wp_mono b e _ (λa6 ae Kb t=> ?_) (λ_ _ _ d=>d) _ _ s
 refine Sem.wp_mono b e _ (λa9 a0 ak v=> ?_) (λ_ _ _ d=>d) _ _ t
 have j:=v e a0 f;simp only[hm,qk,Sem.wp_bind']at j;exact j
end
section
open PySem.Calls
def uJ(e:nH)(b:Env):=AD PySem.W.Fast.tw14044960220447912780 (λd c a=>PySem.W.Fast.tw6042679816869820781 d c a) PySem.W.Fast.tw10963107736168562426 PySem.W.Fast.tw11392484809677674534 PySem.W.Fast.tw8711993805878244202 e b
def nJ(i:nH)(e:Env):=qj PySem.W.Fast.tw14069538253670106520 PySem.W.Fast.tw9492743126541576920 PySem.W.Fast.tw6600643334278800223 (λh f d a g c b=>PySem.W.Fast.tw11113344188204177931 h f d a g none c none b) PySem.W.Fast.tw2426001476595277715 i e
def nK(e:nH):=qk (λd b c a=>PySem.W.Fast.tw8289420714989923916 d b c a []) PySem.W.Fast.tw12372662630863984472 e
theorem xH(b:nH)(a:Env):uJ b a=nI b a:=by unfold uJ nI;rw[<-PySem.W.Fast.te14044960220447912780,<-PySem.W.Fast.te6042679816869820781,<-PySem.W.Fast.te10963107736168562426,<-PySem.W.Fast.te11392484809677674534,<-PySem.W.Fast.te8711993805878244202]
theorem sa(b:nH)(a:Env):nJ b a=ia b a:=by unfold nJ ia;rw[<-PySem.W.Fast.te14069538253670106520,<-PySem.W.Fast.te9492743126541576920,<-PySem.W.Fast.te6600643334278800223,<-PySem.W.Fast.te11113344188204177931,<-PySem.W.Fast.te2426001476595277715]
theorem se(a:nH):nK a=hm a:=by unfold nK hm;rw[<-PySem.W.Fast.te8289420714989923916,<-PySem.W.Fast.te12372662630863984472]
def xI(b:Wz)(a:Env×Wz):Code:= .builtin "" ⟨[b,.ref a.1.locals,a.1.code,a.2],[]⟩
def St.mark(a:St)(c:Code):St:=⟨a.led,a.gl,a.al,a.sl,a.UT,a.use,a.UN,a.bl,.c c c::a.lg⟩
def dH(a:Wy Stmt):Stmt:=match a with
 |s::_=>s
 |[]=>.Pass ⟨0,0,0,0⟩
section
variable {R:Type}
def Tp(d:IH R)(k:nH->Env->Sem ((Wz×ui)×Wz))(i:nH->Env->((Wz×ui)×Wz)->Sem (Env×Wz))(j:nH->((Wz×ui)×Wz)->Wz->Sem Flow)(c:Nat)(b:Cx)(g:nH)(l:Wy Stmt)(f:Env)(m:St)(q:WH->St->WA R):WA R:=
 d.t c b (k g f) m λa n=>match a with
  | .ok e=>d.t c b (i g f e) n λa o=>match a with
   | .ok h=>d.t c b (j g e h.2) (o.mark (xI e.2 h)) λa p=>match a with
    | .ok .next=>d.b c b l f p q
    |_=>none
   | .error _=>none
  | .error _=>none
end
def o4(u:WB)(S:Spec)(a:fF)(b:AL)(d:SL):WA (WH×St):=
 Tp (iter (KB (W2 u)) XF ⟨PW,(Pm u)⟩ a.n) uJ nJ nK S.dep ⟨none,S.top⟩ (jQ (dH (dS S.code))) (dS S.code).tail (gS S.code) (dd S.UM a.UT (dz a.us a.ps a.gs a.bs) (di a.ss a.U2 a.UY a.U1) b d) λc e=>some (c,e)
theorem Ot{S:Spec}(a:fF)(D:uh)(C:uh)(T:Wy f8)(W:AL->SL->AL)(a8:AL->SL->SL)
 (aA:cq u a.us)(az:sr u a.ss)
 (ab:∀l m,Hq (o4 u S a l m) D C T (S.res (W l m) (a8 l m)) S.UM (W l m) (a8 l m))
 (ar:S.code= .block ((jQ (dH (dS S.code))).st::(dS S.code).tail) (gS S.code):=by kernel_rfl)
 (al:interactive (gS S.code)=false:=by kernel_rfl)(an:swapsWith (.Call (.Attribute (.Name (jQ (dH (dS S.code))).o (jQ (dH (dS S.code))).p1) (jQ (dH (dS S.code))).name (jQ (dH (dS S.code))).apos) [.GeneratorExp (jQ (dH (dS S.code))).elt [(jQ (dH (dS S.code))).g] (jQ (dH (dS S.code))).scope (jQ (dH (dS S.code))).p2] [] (jQ (dH (dS S.code))).pos) none (jQ (dH (dS S.code))).p0.line (gS S.code)=pure false:=by kernel_rfl)
 (ao:((jQ (dH (dS S.code))).apos.endLine==(jQ (dH (dS S.code))).pos.line)=true:=by kernel_rfl)(ap:(jQ (dH (dS S.code))).scope.isCoroutine=false:=by kernel_rfl)(aq:firstAsync [(jQ (dH (dS S.code))).g]=false:=by kernel_rfl)
 (av:D.Nodup:=by decide)(as:C.Nodup:=by decide)(aw:Hl S.UM:=by intro _ _;rfl)(au:Hg S.UM:=by intro _ _;rfl):OK u S:=by
 intro j R H x A af ae ay J;have z:∀l m,Good (Gq S.res S.UM D C T) (o4 u S a l m):=λl m=>by
  obtain⟨a6,h,p,aD,v⟩:=gM (ab l m);exact⟨a6,h,p,aD,_,_,v⟩
 unfold o4 Tp at z;simp only[xH,sa,se]at z;rw[<-l2]at z;generalize jQ (dH (dS S.code))=s at*;generalize (dS S.code).tail=y at*;generalize gS S.code=q at*;rw[ar];show wpAny (model PW (W2 u)) j (execs (s.st::y) q) (λv N=>R (.ok v) N) (λp N=>R (.error p) N) H
 have a3:dj (R0:=WH) (λ(b:WH) h=>some (b,h)):=λb h aP aB=>by
  cases aB;exact λ_ J=>J
 obtain⟨Q,aN,aL,aO⟩:=l1 (R0:=WH) (P:=PW) (w:=W2 u) (F:=Gq S.res S.UM D C T) (m8 (W2 u)) a.n;have a2:dj (R0:=WH) (λ(e:Except Wz Flow) i=>match e with
   | .ok .next=>(iter (KB (W2 u)) .own ⟨PW,(Pm u)⟩ a.n).b S.dep ⟨none,S.top⟩ y q i λb h=>some (b,h)
   |_=>none):=λe r aa d=>by
  try dsimp only at d
  split at d
  ·exact(cv a.n).b a3 d
  ·cases d
 have a1:∀c:(Wz×ui)×Wz,dj (R0:=WH) (λ(e:Except Wz (Env×Wz)) o=>match e with
   | .ok k=>(iter (KB (W2 u)) .own ⟨PW,(Pm u)⟩ a.n).t S.dep ⟨none,S.top⟩ (hm s c k.2) (o.mark (xI c.2 k)) λe i=>match e with
    | .ok .next=>(iter (KB (W2 u)) .own ⟨PW,(Pm u)⟩ a.n).b S.dep ⟨none,S.top⟩ y q i λb h=>some (b,h)
    |_=>none
   | .error _=>none):=λc e r aa d=>by
  try dsimp only at d
  split at d
  ·exact cw.trans (λaM ax=>.tail _ ax) ((cv a.n).t a2 d)
  ·cases d
 have ak:dj (R0:=WH) (λ(e:Except Wz ((Wz×ui)×Wz)) r=>match e with
   | .ok c=>(iter (KB (W2 u)) .own ⟨PW,(Pm u)⟩ a.n).t S.dep ⟨none,S.top⟩ (ia s q c) r λe o=>match e with
    | .ok k=>(iter (KB (W2 u)) .own ⟨PW,(Pm u)⟩ a.n).t S.dep ⟨none,S.top⟩ (hm s c k.2) (o.mark (xI c.2 k)) λe i=>match e with
     | .ok .next=>(iter (KB (W2 u)) .own ⟨PW,(Pm u)⟩ a.n).b S.dep ⟨none,S.top⟩ y q i λb h=>some (b,h)
     |_=>none
    | .error _=>none
   | .error _=>none):=λe r aa d=>by
  try dsimp only at d
  split at d
  ·exact(cv a.n).t (a1 _) d
  ·cases d
 have G:oi j S.dep ⟨none,S.top⟩:=⟨x.hd,x.top,by have:=x.dep;omega,by have:=x.U9;omega⟩;have aG:Rep PW (W2 u) (KB (W2 u)) (cC j) (dd S.UM a.UT (dz a.us a.ps a.gs a.bs) (di a.ss a.U2 a.UY a.U1) (λ_=>0) (λ_=> #[])) H:=e5 _ _ ay af ae (λY L=>aA.mem _ (eC Y L)) (λY L=>az.mem _ (ed Y L))
 refine wpAny_execs_cons (Oq al an ao ap aq (by have:=x.dep;show j.depth<1000;omega) ?_);refine Q S.dep ⟨none,S.top⟩ (nI s q) (dd S.UM a.UT (dz a.us a.ps a.gs a.bs) (di a.ss a.U2 a.UY a.U1) (λ_=>0) (λ_=> #[])) _ ak z j H _ _ G A aG λb r s1 a4 a7 X=> ?_
 cases b with
 |error p=>exact(sb rfl (a4 r.al r.sl)).elim
 |ok c=>
  refine⟨gR _ _ a7.base, ?_⟩;refine Q S.dep ⟨none,S.top⟩ (ia s q c) r _ (a1 c) a4 j s1 _ _ G (A.UU X) a7 λb o O a5 f ah=> ?_
  have I:=X.trans ah;cases b with
  |error p=>exact(sb rfl (a5 o.al o.sl)).elim
  |ok k=>
   have aH:Rep PW (W2 u) (KB (W2 u)) (cC j) (o.mark (xI c.2 k)) O:=⟨f.cell,f.nd,f.nk,f.nf,f.base,f.gen,f.U6,f.bare,f.use,f.UN,f.UO⟩;have Z:cU (cC j) (dd S.UM a.UT (dz a.us a.ps a.gs a.bs) (di a.ss a.U2 a.UY a.U1) (λ_=>0) (λ_=> #[])) H (o.mark (xI c.2 k)) O:=⟨I.step,I.led,I.gl⟩
   refine Q S.dep ⟨none,S.top⟩ (hm s c k.2) (o.mark (xI c.2 k)) _ a2 a5 j O _ _ G (A.UU Z) aH λb i aI M aE c3=> ?_
   have yh:=Z.trans c3;cases b with
   |error p=>exact(sb rfl (M i.al i.sl)).elim
   |ok v=>
    cases v with
    |next=>
     refine aL S.dep ⟨none,S.top⟩ y q i _ a3 M j aI _ _ G (A.UU yh) aE λb a9 aJ aC aF ai=> ?_
     have ag:=yh.trans ai;obtain⟨a6,h,p,_,ac,aK,V⟩:=aC a9.al a9.sl;cases p;simp only[Prod.mk.injEq]at V;obtain⟨e1,e2,e3,aj⟩:=V;have a0:=J ac aK aJ (iq aF ag rfl rfl av as (aw _ _) (au _ _) e2 e3 aj);rw[<-e1]at a0;cases b<;>exact a0
    |_=>exact(sb rfl (M i.al i.sl)).elim
end
section
open PySem.Calls
theorem gT{S:Spec}{a:Wy TU}(n:Nat)(o:Wy (uh))(i:uh)(h:AL->SL->AL)(D:cq u a)(G:Wy (uh):=[])(J:Wy (Wy f8):=[])(d:uh:=[])(l:Wy f8:=[])(f:AL->SL->SL:=g4 [])(e:Wy TG:=[])(j k:Wy (uh):=[])(m:Wy (Wy f8):=[])(q:sr u e:=by trivial)
 (p:∀b c,Hq (o4 u S ⟨2000,dc n,a,o,G,J,e,j,k,m⟩ b c) i d l (S.res (h b c) (f b c)) S.UM (h b c) (f b c):=by intro b H;show _=_;first|(obtain⟨I,b1,b2⟩:=u;cases b1<;>kernel_rfl)|(cases b1<;>kernel_rfl))
 (x:S.code= .block ((jQ (dH (dS S.code))).st::(dS S.code).tail) (gS S.code):=by kernel_rfl)(r:interactive (gS S.code)=false:=by kernel_rfl)(s:swapsWith (.Call (.Attribute (.Name (jQ (dH (dS S.code))).o (jQ (dH (dS S.code))).p1) (jQ (dH (dS S.code))).name (jQ (dH (dS S.code))).apos) [.GeneratorExp (jQ (dH (dS S.code))).elt [(jQ (dH (dS S.code))).g] (jQ (dH (dS S.code))).scope (jQ (dH (dS S.code))).p2] [] (jQ (dH (dS S.code))).pos) none (jQ (dH (dS S.code))).p0.line (gS S.code)=pure false:=by kernel_rfl)(t:((jQ (dH (dS S.code))).apos.endLine==(jQ (dH (dS S.code))).pos.line)=true:=by kernel_rfl)(v:(jQ (dH (dS S.code))).scope.isCoroutine=false:=by kernel_rfl)(w:firstAsync [(jQ (dH (dS S.code))).g]=false:=by kernel_rfl)(A:i.Nodup:=by decide)(y:d.Nodup:=by decide)(C:Hl S.UM:=by intro _ _;rfl)(z:Hg S.UM:=by intro _ _;rfl):OK u S:=
 Ot ⟨2000,dc n,a,o,G,J,e,j,k,m⟩ i d l h f D q p x r s t v w A y C z
end
section
open PySem.Calls
theorem uK(a:ug)(b:Nat)(c:Wz):Obj.mapSeq (·.pop) (cm (a.push c) (b+1))=cm a (b+1+1):=by unfold cm Obj.mapSeq;simp
def B9{a:Type}(l:Nat)(k:Cx)(g i m:Nat)(p q:Wz)(f:ug)(h:Nat)(b:St)(r:WH->St->WA a):WA a:=match b.UT with
 |e::j::os=>match cellAt b.led e,cellAt b.led j,Nat.beq e j with
  |some c,some d,false=>match c.fr,d.fr with
   |false,false=>f9 l k (.builtin "list.extend.loop" ⟨[.ref g,.ref i,.none],[]⟩) ⟨da b.led e (cm f (h+1+1)),b.gl,b.al,b.sl,os,b.use,b.UN,b.bl,.n c.addr g:: .o c.obj (cm f h):: .n d.addr i:: .o d.obj (ey m p q)::b.lg⟩ os r
   |_,_=>none
  |_,_,_=>none
 |_=>none
def o5(u:WB)(S:Spec)(a:fF)(b:AL)(d:SL):WA (WH×St):=
 B9 S.dep ⟨none,none⟩ (ad S.code 0) (ad S.code 1) (D7 S) (qe S 1) (qe S 2) (jO S) (mq S) (dd S.UM a.UT (dz a.us a.ps a.gs a.bs) (di a.ss a.U2 a.UY a.U1) b d) λc e=>some (c,e)
theorem lJ:entryFor table "list.extend" =some Builtin.«list.extend»:=entryFor_of_tree (by kernel_rfl)
theorem Ou{S:Spec}(b:fF)(L:uh)(I:uh)(P:Wy f8)(ac:AL->SL->AL)(ai:AL->SL->SL)
 (aN:cq u b.us)(aK:sr u b.ss)(az:(jO S).size<=1000000)
 (ak:∀g j,Hq (o5 u S b g j) L I P (S.res (ac g j) (ai g j)) S.UM (ac g j) (ai g j))
 (aA:S.code= .builtin "list.extend" ⟨[.ref (ad S.code 0),.ref (ad S.code 1)],[]⟩:=by rfl)(aZ:S.top=none:=by rfl)(aF:L.Nodup:=by decide)(aD:I.Nodup:=by decide)(aG:Hl S.UM:=by intro _ _;rfl)(aE:Hg S.UM:=by intro _ _;rfl):OK u S:=by
 intro X R O a8 ax ao an aJ y;have x:∀g j,Good (Gq S.res S.UM L I P) (o5 u S b g j):=λg j=>by
  obtain⟨s,A,f,m,Z⟩:=gM (ak g j);exact⟨s,A,f,m,_,_,Z⟩
 unfold o5 at x;have af:dj (R0:=WH) (λ(t:WH) A=>some (t,A)):=λt A aT a5=>by
  cases a5;exact λ_ y=>y
 rw[aA];show codeAny _ _ (.builtin "list.extend" ⟨[.ref (ad S.code 0),.ref (ad S.code 1)],[]⟩) _ _;generalize aX:ad S.code 0=ab at x|-;generalize aY:ad S.code 1=ae at x|-;generalize D7 S=H,qe S 1=M,qe S 2=N at x;generalize jO S=k at x az;generalize mq S=l at x;have W:Rep PW (W2 u) (KB (W2 u)) (cC X) (dd S.UM b.UT (dz b.us b.ps b.gs b.bs) (di b.ss b.U2 b.UY b.U1) (λ_=>0) (λ_=> #[])) O:=e5 _ _ aJ ao an (λa9 a4=>aN.mem _ (eC a9 a4)) (λa9 a4=>aK.mem _ (ed a9 a4))
 generalize a3:dd S.UM b.UT (dz b.us b.ps b.gs b.bs) (di b.ss b.U2 b.UY b.U1) (λ_=>0) (λ_=> #[])=a at W
 have p:∀g j,Good (Gq S.res S.UM L I P) (B9 S.dep ⟨none,none⟩ ab ae H M N k l (a.w g j) λt A=>some (t,A)):=λg j=>by
  rw[<-a3];exact x g j
 have aH:a.led=S.UM.pre:=by rw[<-a3];rfl
 have aB:a.gl=S.UM.UR:=by rw[<-a3];rfl
 have aO:∀{t:WH} {G:St} {s1:WF},(∀g j,Good (Gq S.res S.UM L I P) (some (t,G.w g j)))->Rep PW (W2 u) (KB (W2 u)) (cC X) G s1->cU (cC X) a O G s1->R t s1:=λ{t G s1} a0 aP ap=>by
  obtain⟨s,A,f,_,al,aS,aa⟩:=a0 G.al G.sl;cases f;simp only[Prod.mk.injEq]at aa;obtain⟨e1,e2,e3,as⟩:=aa;rw[e1];exact y al aS s1 (iq aP ap aH aB aF aD (aG _ _) (aE _ _) e2 e3 as)
 rcases v:a.UT with _|⟨r,_|⟨a7,ag⟩⟩
 ·exact(sb (by simp only[B9,St.w,v]) (p a.al a.sl)).elim
 ·exact(sb (by simp only[B9,St.w,v]) (p a.al a.sl)).elim
 ·cases q:cellAt a.led r with
  |none=>exact(sb (by simp only[B9,St.w,v,q]) (p a.al a.sl)).elim
  |some c=>
   cases z:cellAt a.led a7 with
   |none=>exact(sb (by simp only[B9,St.w,v,q,z]) (p a.al a.sl)).elim
   |some h=>
    cases D:Nat.beq r a7 with
    |true=>exact(sb (by simp only[B9,St.w,v,q,z,D]) (p a.al a.sl)).elim
    |false=>
     cases C:c.fr with
     |true=>exact(sb (by simp only[B9,St.w,v,q,z,D,C]) (p a.al a.sl)).elim
     |false=>
      cases a2:h.fr with
      |true=>exact(sb (by simp only[B9,St.w,v,q,z,D,C,a2]) (p a.al a.sl)).elim
      |false=>
       simp only[B9,St.w,v,q,z,D,C,a2]at p;have Y:=(p a.al a.sl).sub λaT a5=>gf af a5
       have au:c.addr=ab:=Y _ (.head _);have Q:c.obj=cm k l:=Y _ (.tail _ (.head _));have av:h.addr=ae:=Y _ (.tail _ (.tail _ (.head _)));have aw:h.obj=ey H M N:=Y _ (.tail _ (.tail _ (.tail _ (.head _))));have cellOf:∀{e:Nat} {o:cK},cellAt a.led e=some o->o.fr=false->O.heap.get? o.addr=some o.obj:=λ{e o} f Z=>by
        have:=W.cell o (t9 f);unfold cR at this;rw[Z]at this;exact this
       have T:=cellOf q C;have J:=cellOf z a2;have aI:c.addr≠h.addr:=λf=>by
        have:=hw (f:=λc:cK=>c.addr) W.nd (i:=r) (j:=a7) q z f
        rw[this]at D;exact absurd D (by simp[Nat.beq_refl])
       subst au av;have aC:=T;rw[Q]at T;rw[aw]at J;have b0:(1000000:Nat)+1<=sizeLine:=by decide
       have aj:(O.heap.update c.addr (Obj.mapSeq (·.push .none))).get? c.addr=some (cm (k.push .none) (l+1)):=by
        rw[<-gQ];exact Heap.get?_update_self _ T (by rw[gQ];rfl)
       refine dY (by decide+kernel) lJ ?_;show wpAny _ _ (Builtin.List.listExtendWith (.ref c.addr) (.ref h.addr) .none) _ _ O;unfold Builtin.List.listExtendWith;refine ci (wpAny_typeOf (T:= "generator") ⟨_,J,rfl⟩ ?_);have a0:Builtin.List.listSameRef (.ref c.addr) (.ref h.addr)=false:=by simp[Builtin.List.listSameRef,aI]
       have ay:(Value.type "generator" ==Value.type "list")=false:=by decide
       have a1:(Value.type "generator" ==Value.type "tuple")=false:=by decide
       simp only[a0,ay,a1,Bool.or_false,Bool.false_eq_true,if_false];refine ci (wpAny_pyIter_gen (g:=H) ?_ ?_)
       ·exact⟨_,M,N,J,rfl,rfl,rfl⟩
       refine ci (wpAny_holding ?_);unfold Builtin.List.listLengthHint;refine ci (wpAny_specialOf (T:= "generator") ⟨_,J,rfl⟩ F.gen_no_len ?_);show wpAny _ _ (specialOf (Value.ref h.addr) (Str.ofString "__length_hint__")>>=_) _ _ _;refine ci (wpAny_specialOf (T:= "generator") ⟨_,J,rfl⟩ F.gen_no_hint ?_);refine cj ?_;show wpAny _ _ (rule "list.extend.makes-room" >>=λ_=>Builtin.List.listTouch (.ref c.addr)>>=λ_=>
        again (.builtin "list.extend.loop" ⟨[.ref c.addr,.ref h.addr,.none],[]⟩)) _ _ _
       refine ci (wpAny_rule ?_);refine ci ?_;show wpAny _ _ (updateSeq c.addr (·.push .none)>>=λ_=>updateSeq c.addr (·.pop)) _ _ _
       refine ci (wpAny_updateSeq T rfl ?_ (by omega) (by show(Array.push _ _).size<=_;rw[Array.size_push];omega));refine wpAny_updateSeq aj rfl ?_ (by rw[Array.size_push];omega) (by show(Array.pop _).size<=_;rw[Array.size_pop,Array.size_push];omega);refine cj ⟨by kernel_rfl, ?_⟩;have aL:∀{m:Wy cK} {e:Nat} {o:cK} {s:gi},cellAt m e=some o->cellAt (da m e s) e=some ⟨o.addr,s,o.fr⟩:=λ{m e o s}=>by
        intro f;induction m generalizing e with
        |nil=>cases f
        |cons aU m a6=>cases e with
         |zero=>cases f;rfl
         |succ e=>exact a6 f
       obtain⟨aQ,aq⟩:=gm (f:=Obj.mapSeq (·.push .none)) (o':=cm (k.push .none) (l+1)) (st1:=⟨da a.led r (cm (k.push .none) (l+1)),a.gl,a.al,a.sl,a.UT,a.use,a.UN,a.bl,a.lg⟩) W q aC (by rw[Q,gQ];rfl) (λy f=>by unfold cR;rw[C];rw[Q,gQ]at f;exact f) (by rw[Q];exact g0 _ _ _ (by rw[gQ];rfl)) rfl rfl rfl rfl
       obtain⟨ah,ar⟩:=gm (f:=Obj.mapSeq (·.pop)) (o':=cm k (l+1+1)) (st1:=⟨da (da a.led r (cm (k.push .none) (l+1))) r (cm k (l+1+1)),a.gl,a.al,a.sl,ag,a.use,a.UN,a.bl,.n c.addr c.addr:: .o c.obj (cm k l):: .n h.addr h.addr:: .o h.obj (ey H M N)::a.lg⟩) aQ (aL q) aj (by rw[uK];rfl) (λy f=>by unfold cR;rw[C];rw[uK]at f;exact f) (g0 _ _ _ (by rw[uK];rfl)) rfl rfl rfl rfl
       have aM:∀(m:Wy cK) (e:Nat) (s V:gi),da (da m e s) e V=da m e V:=λm=>by
        induction m with
        |nil=>intro e s V;rfl
        |cons aU m a6=>intro e s V;cases e with
         |zero=>rfl
         |succ e=>show _::_=_::_;rw[a6]
       have yh:=aq.trans ar;have e3:da (da a.led r (cm (k.push .none) (l+1))) r (cm k (l+1+1))=da a.led r (cm k (l+1+1)):=aM _ _ _ _;rw[e3]at ah yh;exact hW (d:=S.dep) (cx:=⟨none,none⟩) (c:= .builtin "list.extend.loop" ⟨[.ref c.addr,.ref h.addr,.none],[]⟩) (st:=⟨da a.led r (cm k (l+1+1)),a.gl,a.al,a.sl,ag,a.use,a.UN,a.bl,.n c.addr c.addr:: .o c.obj (cm k l):: .n h.addr h.addr:: .o h.obj (ey H M N)::a.lg⟩) (R:=R) af p ⟨a8.hd,(λaW y=>by cases y),a8.dep,a8.U9⟩ (ax.UU yh) ah λt b4 b3 a1 aR c3=>aO a1 aR (yh.trans c3)
end
section
open PySem.Calls
theorem eT{S:Spec}{Y:Wy TU}(i:Nat)(j:Wy (uh))(e:uh)(d:AL->SL->AL)(t:cq u Y)(m:(jO S).size<=1000000)(G:Wy (uh):=[])(J:Wy (Wy f8):=[])(I:uh:=[])(R:Wy f8:=[])(Z:AL->SL->SL:=g4 [])(c:Wy TG:=[])(f g:Wy (uh):=[])(h:Wy (Wy f8):=[])(l:sr u c:=by trivial)
 (k:∀a b,Hq (o5 u S ⟨2000,dc i,Y,j,G,J,c,f,g,h⟩ a b) e I R (S.res (d a b) (Z a b)) S.UM (d a b) (Z a b):=by intro a v;show _=_;first|(obtain⟨w,b1,b2⟩:=u;cases b1<;>kernel_rfl)|(cases b1<;>kernel_rfl))
 (n:S.code= .builtin "list.extend" ⟨[.ref (ad S.code 0),.ref (ad S.code 1)],[]⟩:=by rfl)(s:S.top=none:=by rfl)(q:e.Nodup:=by decide)(o:I.Nodup:=by decide)(r:Hl S.UM:=by intro _ _;rfl)(p:Hg S.UM:=by intro _ _;rfl):OK u S:=
 Ou ⟨2000,dc i,Y,j,G,J,c,f,g,h⟩ e I R d Z t l m k n s q o r p
end
section
section
variable {P:WJ} {w:WG} {K:Nat->WA gi}
theorem mc{b:WI}{S:Seg}(G:∀i:Heap,gq K i->i.NoLimit)(L:gb P w K S)(I:ha b S)(H:∃h,(⟨S.fr,h,true⟩:cK)∈S.UM.pre/\ew h=true)(n:∀e f,S.res e f= .ret (.ok .next)):
  ct P w K (hy d a v x b S):=by
 intro s R J r C A z k i;refine lA (nm:=v) (qn:=x) G L I H (λe f=>by rw[n];rfl) (Nat.le_refl _) r C A z ⟨k.pre,k.nd,k.UR,k.U6,k.UX⟩ λe f g p=> ?_
 rw[n];show wpAny _ _ (newExc (.type "StopIteration") []>>=_) _ _ _;refine ci ?_;simp only[newExc,newTuple];refine ci (wpAny_newObj_type ?_ (by size_fits));refine ci (m:=firstArgMember _ _) (wpAny_of_eq (a:=Value.none) (by first|rfl|(simp only[firstArgMember];rfl)) ?_);refine wpAny_newObj_type ?_ (by size_fits);simp only[raiseNew];refine ci (ci (wpAny_handled ?_));rw[show s.in1.handled=none from r.hd];refine wpAny_throw ?_;have q:∀j h,J.heap.get? j=some h->j<g.heap.objs.size:=λj h l=>by
  obtain⟨M,D,_⟩:=p.step.U7 j h l;exact Heap.lt_size D
 have o:∀(i:Heap) (h:gi),(i.push h).objs.size=i.objs.size+1:=λi h=>by first|exact Heap.size_push .. |simp[Heap.push]
 have t:=gO (E':=⟨(gN d a v x b S).pre,(gN d a v x b S).UR,λe f=>ey a v x::S.UM.post (cy (cy e)) f,λe f=>.finished::S.UM.UQ (cy (cy e)) f,λe f=>⟨e 0,eE #[],false⟩::S.UM.new (cy (cy e)) f,λe f=>S.UM.UW (cy (cy e)) f,S.UM.UX,λe f=>S.UM.US (cy (cy e)) f⟩)
  (al':=cons g.heap.objs.size (cons (g.heap.objs.size+1) e)) (c:=⟨g.heap.objs.size,eE #[],false⟩) p rfl rfl rfl (by show _=(S.res e f).genState::_;rw[n];rfl) rfl rfl rfl rfl rfl rfl q
 have y:=gO (E':=pF d a v x b S) (al':=cons g.heap.objs.size (cons (g.heap.objs.size+1) e)) (c:=⟨g.heap.objs.size+1,qZ g.heap.objs.size,false⟩) t rfl rfl rfl rfl rfl rfl (by show _=(g.heap.push (eE #[])).objs.size;rw[o]) rfl rfl rfl (λj h l=>by
  show j<(g.heap.push (eE #[])).objs.size;rw[o];exact Nat.lt_succ_of_lt (q j h l))
 have:=i _ _ _ y;have e2:(g.heap.push (eE #[])).objs.size=g.heap.objs.size+1:=o _ _;show R (.error (.ref (g.heap.push (eE #[])).objs.size)) _;rw[e2];exact this
end
end
section
def Ov:nH:=jQ (dH (qg 15))
def Ud:PySem.Expr:= .GeneratorExp Ov.elt [Ov.g] Ov.scope Ov.p2
def Ow(b a:Nat):Env:=⟨Ov.scope,a,3,[],lq "Commit._serialize.<locals>.<genexpr>.",none,.ref b,some a,0⟩
def gE(c b a:Nat):Code:= .compStart Ud 0 (.ref c) .none (Ow b a)
structure kz where
 (L it cc le VC k0:Nat)
 E:ug
inductive uL where
 |zero
 |one (h v:cl) (k1 k2 th tv:Nat)
def RQ(a:WC):uL->Wy WL
 | .zero=>[]
 | .one b g c d e f=>[dx a "field" c (.bytes b e),dx a "value" d (.bytes g f)]
def Ue:uL->Nat
 | .zero=>1
 | .one .. =>3
def Ii(b:WC)(d c:Nat)(a:uL):gi:=ot (dx b ".0" d (.ref c)::RQ b a) (Ue a)
def Ed(d:uL)(b c:cl)(a:AL):uL:=match d with
 | .zero=>.one b c (a 1) (a 2) (a 3) (a 4)
 | .one _ _ e f _ _=>.one b c e f (a 3) (a 4)
def lK(c:WC)(a:kz)(b:uL)(d:Nat):Wy cK:=[⟨a.L,Ii c a.k0 a.it b,true⟩,⟨a.it,dp a.le a.it d,false⟩,⟨a.le,cm a.E a.VC,false⟩]
def QA(a d c b:Nat):kz:=⟨a,d,c,100001,0,0,#[.ref b]⟩
def sh(a:kz)(c b:Nat):Wy U:=[λd f e=>xf a.it a.le c a.E a.VC (.ref b)]
def Gm(e:WG)(a d c b:Nat):oq:=(⟨gE d c a,none,[],a,60,⟨lK e.params (QA a d c b) .zero 0,[],nn,nn,nn,nn,[⟨#[.ref b],[(#[],#[])]⟩],nn⟩,λ_ _=>.ret (.ok .next)⟩,sh (QA a d c b) 0 b,[])
def Tm:Nat:=0x10201222001f3e8e0000bf01f0af01110111113e8e011001200f40
def To:Nat:=0x122012120201222001f3e8e0000bf01f0af01110111113e8e011001200f40
def o6(u:WB)(b d c:Nat):WA (End×St):=
 let a:=100007
 match u.b2 with
 |true=>ke ⟨u.w,u.b1,true⟩ (Gm (W2 ⟨u.w,u.b1,true⟩) b d c a).1 ({n:=185,UT:=dc Tm,us:=(sh (QA b d c a) 0 a),ps:=[[1,2]]}:fF) ⟨0,0,0,0⟩ (λ_=>0) (λ_=> #[])
 |false=>ke ⟨u.w,u.b1,false⟩ (Gm (W2 ⟨u.w,u.b1,false⟩) b d c a).1 ({n:=203,UT:=dc To,us:=(sh (QA b d c a) 0 a),ps:=[[1,2]]}:fF) ⟨0,0,0,0⟩ (λ_=>0) (λ_=> #[])
def QC(u:WB)(a:kz)(b:Wz):End:=cT (o6 u a.L a.it a.cc) b
theorem vU(u:WB)(a c b:Nat):qY (cT (o6 u a c b) .none)=true:=by obtain⟨d,b1,b2⟩:=u;cases b1<;>cases b2<;>kernel_rfl
theorem Ox(u:WB)(a c b:Nat):(cT (o6 u a c b) .none).quiet=true:=by obtain⟨d,b1,b2⟩:=u;cases b1<;>cases b2<;>kernel_rfl
def Ij(u:WB)(a:kz):WI:=(cT (o6 u a.L a.it a.cc) .none).genState
def vV(c:WC)(a:kz)(b:uL)(f:Nat)(e g:cl)(d:AL):uk:=[Ii c a.k0 a.it (Ed b e g d),dp a.le a.it (f+1:Nat),cm a.E a.VC]
def Oy(u:WB)(a:kz)(e:Nat)(c d:cl):Seg:=
 ⟨gE a.it a.cc a.L,none,[],a.L,60,⟨lK (Pm u) a .zero 0,[],λb _=>vV (Pm u) a .zero 0 c d b,nn,nn,nn,[⟨#[.ref e],[(c,d)]⟩],λb _=>[⟨#[.ref (b 0)],[(c,d)]⟩]⟩,λb _=>QC u a (.ref (b 0))⟩
variable {a:kz}
theorem Ik(f:a.E[0]?=some (.ref c)):fj u (Oy u a c k m):=by
 obtain⟨e,b1,b2⟩:=u;have d:cq ⟨e,b1,b2⟩ (sh a 0 c):=⟨λg i h=>iy f,cg⟩
 have b:sr ⟨e,b1,b2⟩ []:=cg;cases b2 with
 |true=>exact sT Tm [[1,2]] [2,1,0] (cJ [53,49,51,27,35]) d (R:=[.cells [0]]) (O:=_) (Q:=b)
 |false=>exact sT To [[1,2]] [2,1,0] (cJ [53,49,51,27,35]) d (R:=[.cells [0]]) (O:=_) (Q:=b)
def Oz(u:WB)(b:kz)(f:uL)(g h:Nat)(c d:cl):Seg:=let e:=QC u b .none
 ⟨iW e,some (iV e (.send .none)),gc e,b.L,60,⟨lK (Pm u) b f g,[],λa _=>vV (Pm u) b f g c d a,nn,nn,nn,[⟨#[.ref h],[(c,d)]⟩],λa _=>[⟨#[.ref (a 0)],[(c,d)]⟩]⟩,λa _=>QC u b (.ref (a 0))⟩
theorem Il{v0:cl}(n:a.E[g]?=some (.ref c)):fj u (Oz u a (.one l v0 d e f h) g c k m):=by
 obtain⟨j,b1,b2⟩:=u;have i:cq ⟨j,b1,b2⟩ (sh a g c):=⟨λo q p=>iy n,cg⟩
 have b:sr ⟨j,b1,b2⟩ []:=cg;cases b2 with
 |true=>exact sT Tm [[1,2]] [2,1,0] (cJ [53,0,0,27,35]) i (R:=[.cells [0]]) (O:=_) (Q:=b)
 |false=>exact sT Tm [[1,2]] [2,1,0] (cJ [53,0,0,27,35]) i (R:=[.cells [0]]) (O:=_) (Q:=b)
def qm(c:WC)(a:kz)(b:uL):uk:=[Ii c a.k0 a.it b,k6 a.E.size,cm a.E a.VC]
def Im(u:WB)(a:kz):Seg:=
 ⟨gE a.it a.cc a.L,none,[],a.L,60,⟨lK (Pm u) a .zero a.E.size,[],λb _=>qm (Pm u) a .zero,nn,nn,nn,[],nn⟩,λb _=>.ret (.ok .next)⟩
theorem Io:fj u (Im u a):=by
 obtain⟨d,b1,b2⟩:=u;have c:cq ⟨d,b1,b2⟩ [λe g f=>jM a.it a.le a.E.size a.E a.VC]:=⟨λe g f=>fP (by simp),cg⟩
 have b:sr ⟨d,b1,b2⟩ []:=cg;cases b2 with
 |true=>exact sT 0x10201221 [[1,2]] [2,1,0] (cJ []) c (O:=_) (Q:=b)
 |false=>exact sT 0x122012120201221 [[1,2]] [2,1,0] (cJ []) c (O:=_) (Q:=b)
def Ip(u:WB)(a:kz)(c:uL):Seg:=let b:=QC u a .none
 ⟨iW b,some (iV b (.send .none)),gc b,a.L,60,⟨lK (Pm u) a c a.E.size,[],λd _=>qm (Pm u) a c,nn,nn,nn,[],nn⟩,λd _=>.ret (.ok .next)⟩
theorem Ee{v0:cl}:fj u (Ip u a (.one l v0 d e f h)):=by
 obtain⟨g,b1,b2⟩:=u;have c:cq ⟨g,b1,b2⟩ [λi k j=>jM a.it a.le a.E.size a.E a.VC]:=⟨λi k j=>fP (by simp),cg⟩
 have b:sr ⟨g,b1,b2⟩ []:=cg;cases b2 with
 |true=>exact sT 0x10201221 [[1,2]] [2,1,0] (cJ []) c (O:=_) (Q:=b)
 |false=>exact sT 0x10201221 [[1,2]] [2,1,0] (cJ []) c (O:=_) (Q:=b)
def RR(u:WB)(a:kz)(b:GN)(d:Nat)(e f:cl):Spec:=Ax b.ga b.g b.nm b.qn (.fresh (gE a.it a.cc a.L)) (λc=>Ij u a) (Oy u a d e f) λc=>.ref (c 0)
variable {b:GN}
theorem AE(e:a.E[0]?=some (.ref c)):OK u (RR u a b c k m):=
 hN (λd=>o6 u a.L a.it a.cc) (Ik e) (.inl ⟨rfl,rfl,rfl⟩) ⟨_,.head _,rfl⟩ (λd=>vU u a.L a.it a.cc) (λd=>Ox u a.L a.it a.cc) λd f=>rfl
def Tr(u:WB)(b:kz)(a:GN)(d:uL)(h e:Nat)(f i:cl):Spec:=Ax a.ga a.g a.nm a.qn (Ij u b) (λc=>Ij u b) (Oz u b d h e f i) λc=>.ref (c 0)
theorem Iq{v0:cl}(j:a.E[g]?=some (.ref c)):OK u (Tr u a b (.one l v0 d e f h) g c k m):=
 hN (λi=>o6 u a.L a.it a.cc) (Il j) (dX (vU u a.L a.it a.cc) rfl rfl rfl) ⟨_,.head _,rfl⟩ (λi=>vU u a.L a.it a.cc) (λi=>Ox u a.L a.it a.cc) λi n=>rfl
theorem Ir:OK u (hy b.ga b.g b.nm b.qn (.fresh (gE a.it a.cc a.L)) (Im u a)):=
 mc (gR _) Io (.inl ⟨rfl,rfl,rfl⟩) ⟨_,.head _,rfl⟩ λc d=>rfl
theorem It{v0:cl}:OK u (hy b.ga b.g b.nm b.qn (Ij u a) (Ip u a (.one l v0 d e f h))):=
 mc (gR _) Ee (dX (vU u a.L a.it a.cc) rfl rfl rfl) ⟨_,.head _,rfl⟩ λc i=>rfl
end
section
def me(d:WC)(h:kz)(a:GN)(e:Nat)(b:ug)(f:Nat)(c:uL)(g:Nat):Wy cK:=[⟨e,cm b f,false⟩,⟨a.ga,a.oo,false⟩]++lK d h c g
def jn(c:WC)(e:kz)(f:GN)(a:ug)(d:Nat)(b:uL):uk:=[cm a d,f.oo]++qm c e b
def Iu(u:WB)(a:kz)(b:GN)(e:Nat)(c:ug)(f:Nat)(d:uL):Spec:=
 ⟨xF e b.ga,110,none,⟨me (Pm u) a b e c f d a.E.size,[(b.g,Ij u a)],λh _=>jn (Pm u) a b c f d,λ_ _=>[.finished],nn,nn,[],nn⟩,λ_ _=>uj .none⟩
variable {m:Nat} {a:GN} {b:kz}
theorem vW(n:H.size<=1000000):OK u (Iu u b a c H d (.one k l h i j m)):=by
 have o:cq u [λe p f=>hy a.ga a.g a.nm a.qn (Ij u b) (Ip u b (.one k l h i j m))]:=⟨λe p f=>It,cg⟩
 exact xT 0x1201221 [[1,2,3,4]] [4,3,2,1,0] (cJ []) o n (G:=[[0]]) (I:=[0])
def OA(u:WB)(a:kz)(b:GN)(d:Nat)(c:ug)(e:Nat):Spec:=
 ⟨xF d b.ga,110,none,⟨me (Pm u) a b d c e .zero a.E.size,[(b.g,.fresh (gE a.it a.cc a.L))],λf _=>jn (Pm u) a b c e .zero,λ_ _=>[.finished],nn,nn,[],nn⟩,λ_ _=>uj .none⟩
theorem Ef(h:H.size<=1000000):OK u (OA u b a c H d):=by
 have i:cq u [λe j f=>hy a.ga a.g a.nm a.qn (.fresh (gE b.it b.cc b.L)) (Im u b)]:=⟨λe j f=>Ir,cg⟩
 exact xT 0x1201221 [[1,2,3,4]] [4,3,2,1,0] (cJ []) i h (G:=[[0]]) (I:=[0])
def Eg(c:kz)(a b:Nat):kz:={c with E:= #[.ref a,.ref b]}
def xJ(b:kz)(a:Nat):kz:={b with E:= #[.ref a]}
def OB(u:WB)(f:kz)(c:GN)(l:Nat)(a:ug)(m:Nat)(i:uL)(k d:Nat)(e h:cl)(j:Wy dh):Spec:=
 ⟨xF l c.ga,115,none,⟨me (Pm u) (Eg f k d) c l a m i 1,[(c.g,Ij u f)],λb _=>jn (Pm u) (Eg f k d) c (a++ #[.ref (b 0)]) (m+1) (Ed i e h b),λ_ _=>[.finished],nn,nn,[⟨a,j⟩,⟨#[.ref d],[(e,h)]⟩],λb _=>[⟨a++ #[.ref (b 0)],j++[(e,h)]⟩]⟩,λ_ _=>uj .none⟩
theorem Eh{v0:cl}(q:H.size<1000000):OK u (OB u b a c H d (.one n v0 h i j m) e f k l M):=by
 have r:cq u [λo p g=>Tr u (Eg b e f) a (.one n v0 h i j m) 1 f k l,λo p g=>Iu u (Eg b e f) a c (H++ #[.ref (cH g 0 0)]) (d+1) (.one k l h i (cH g 0 3) (cH g 0 4))]:=⟨λo p g=>Iq rfl,λo p g=>vW (by rw[Array.size_append];show _+1<=_;omega),cg⟩
 exact xT 0x1201220 [[1,2,3,4],[0,1,2,3,4]] [4,3,2,1,0] (cJ [0,0,0,6,8]) r (Nat.le_of_lt q) (G:=[[0],[0]]) (J:=[[.UO 1],[]]) (I:=[0]) (R:=[.app (.UO 1) (.UO 0)])
def OC(u:WB)(a:kz)(d:GN)(j:Nat)(b:ug)(k:Nat)(e:Nat)(f h:cl)(i:Wy dh):Spec:=
 ⟨xF j d.ga,115,none,⟨me (Pm u) (xJ a e) d j b k .zero 0,[(d.g,.fresh (gE a.it a.cc a.L))],λc _=>jn (Pm u) (xJ a e) d (b++ #[.ref (c 0)]) (k+1) (Ed .zero f h c),λ_ _=>[.finished],nn,nn,[⟨b,i⟩,⟨#[.ref e],[(f,h)]⟩],λc _=>[⟨b++ #[.ref (c 0)],i++[(f,h)]⟩]⟩,λ_ _=>uj .none⟩
theorem Ei(i:H.size<1000000):OK u (OC u b a c H d e k l M):=by
 have j:cq u [λg h f=>RR u (xJ b e) a e k l,λg h f=>Iu u (xJ b e) a c (H++ #[.ref (cH f 0 0)]) (d+1) (.one k l (cH f 0 1) (cH f 0 2) (cH f 0 3) (cH f 0 4))]:=⟨λg h f=>AE rfl,λg h f=>vW (by rw[Array.size_append];show _+1<=_;omega),cg⟩
 exact xT 0x1201220 [[1,2,3,4],[0,1,2,3,4]] [4,3,2,1,0] (cJ [0,2,4,6,8]) j (Nat.le_of_lt i) (G:=[[0],[0]]) (J:=[[.UO 1],[]]) (I:=[0]) (R:=[.app (.UO 1) (.UO 0)])
def OD(u:WB)(b:kz)(d:GN)(k:Nat)(c:ug)(l:Nat)(e f:Nat)(m n h i:cl)(j:Wy dh):Spec:=
 ⟨xF k d.ga,118,none,⟨me (Pm u) (Eg b e f) d k c l .zero 0,[(d.g,.fresh (gE b.it b.cc b.L))],λa _=>jn (Pm u) (Eg b e f) d (c++ #[.ref (a 0)]++ #[.ref (a 1)]) (l+1+1) (.one h i (a 2) (a 3) (a 4) (a 5)),λ_ _=>[.finished],nn,nn,[⟨c,j⟩,⟨#[.ref e],[(m,n)]⟩,⟨#[.ref f],[(h,i)]⟩],λa _=>[⟨c++ #[.ref (a 0)]++ #[.ref (a 1)],j++[(m,n)]++[(h,i)]⟩]⟩,λ_ _=>uj .none⟩
theorem Ej{m:cl}(o:H.size+1<1000000):OK u (OD u b a c H d e f k l m n M):=by
 have j:cq u [λh i g=>RR u (Eg b e f) a e k l,λh i g=>OB u b a c (H++ #[.ref (cH g 0 0)]) (d+1) (.one k l (cH g 0 1) (cH g 0 2) (cH g 0 3) (cH g 0 4)) e f m n (M++[(k,l)])]:=⟨λh i g=>AE rfl,λh i g=>Eh (by rw[Array.size_append];show _+1<_;omega),cg⟩
 exact xT 0x1201220 [[1,2,3,4],[0,1,2,3,4]] [4,3,2,1,0] (cJ [0,1,2,4,13,17]) j (show H.size<=1000000 by omega) (G:=[[0],[0]]) (J:=[[.UO 1],[.app (.UO 1) (.UO 0),.UO 3]]) (I:=[0]) (R:=[.UO 0])
def RS(a b:Nat):Code:= .builtin "list.extend" ⟨[.ref a,.ref b],[]⟩
def Iv(u:WB)(a:kz)(b:GN)(d:Nat)(c:ug)(e:Nat):Spec:=
 ⟨RS d b.ga,130,none,⟨me (Pm u) {a with E:= #[]} b d c e .zero 0,[(b.g,.fresh (gE a.it a.cc a.L))],λf _=>jn (Pm u) {a with E:= #[]} b c (e+1+1) .zero,λ_ _=>[.finished],nn,nn,[],nn⟩,λ_ _=>uj .none⟩
theorem AF(f:H.size<1000000):OK u (Iv u b a c H d):=
 eT 0x101 [[0,1,2,3,4]] [4,3,2,1,0] (λe g=>dI e) ⟨λh j i=>Ef (Nat.le_of_lt f),cg⟩ (Nat.le_of_lt f) (Y:=[λh j i=>OA u {b with E:= #[]} a c H (d+1+1)]) (G:=[[0]]) (J:=[[]]) (I:=[0]) (Z:=(λe g=>g))
def Iw(u:WB)(a:kz)(d:GN)(j:Nat)(b:ug)(k:Nat)(e:Nat)(f h:cl)(i:Wy dh):Spec:=
 ⟨RS j d.ga,130,none,⟨me (Pm u) (xJ a e) d j b k .zero 0,[(d.g,.fresh (gE a.it a.cc a.L))],λc _=>jn (Pm u) (xJ a e) d (b++ #[.ref (c 0)]) (k+1+1+1) (Ed .zero f h c),λ_ _=>[.finished],nn,nn,[⟨b,i⟩,⟨#[.ref e],[(f,h)]⟩],λc _=>[⟨b++ #[.ref (c 0)],i++[(f,h)]⟩]⟩,λ_ _=>uj .none⟩
theorem AG(g:H.size<1000000):OK u (Iw u b a c H d e k l M):=
 eT 0x101 [[0,1,2,3,4]] [4,3,2,1,0] (λf h=>dI f) ⟨λi m j=>Ei g,cg⟩ (Nat.le_of_lt g) (Y:=[λi m j=>OC u b a c H (d+1+1) e k l M]) (G:=[[0]]) (J:=[[.UO 0,.UO 1]]) (I:=[0]) (R:=[.UO 0]) (Z:=(λf h=>h))
def Ix(u:WB)(b:kz)(d:GN)(k:Nat)(c:ug)(l:Nat)(e f:Nat)(m n h i:cl)(j:Wy dh):Spec:=
 ⟨RS k d.ga,130,none,⟨me (Pm u) (Eg b e f) d k c l .zero 0,[(d.g,.fresh (gE b.it b.cc b.L))],λa _=>jn (Pm u) (Eg b e f) d (c++ #[.ref (a 0)]++ #[.ref (a 1)]) (l+1+1+1+1) (.one h i (a 2) (a 3) (a 4) (a 5)),λ_ _=>[.finished],nn,nn,[⟨c,j⟩,⟨#[.ref e],[(m,n)]⟩,⟨#[.ref f],[(h,i)]⟩],λa _=>[⟨c++ #[.ref (a 0)]++ #[.ref (a 1)],j++[(m,n)]++[(h,i)]⟩]⟩,λ_ _=>uj .none⟩
theorem AH{m:cl}(o:H.size+1<1000000):OK u (Ix u b a c H d e f k l m n M):=
 eT 0x101 [[0,1,2,3,4]] [4,3,2,1,0] (λg h=>dI g) ⟨λi p j=>Ej o,cg⟩ (show H.size<=1000000 by omega) (Y:=[λi p j=>OD u b a c H (d+1+1) e f k l m n M]) (G:=[[0]]) (J:=[[.UO 0,.UO 1,.UO 2]]) (I:=[0]) (R:=[.UO 0]) (Z:=(λg h=>h))
end
section
def Iy(b:Wz):Nat:=match b with
 | .ref a=>a
 |_=>0
def RT(d:uk)(b:Nat):Nat:=match d[b]? with
 |some c=>(match c.data with| .dict a _=>(match a.toList with|e::_=>df e.key|[]=>0)|_=>0)
 |none=>0
def OE(c:uk)(a:Nat):Nat:=match ky c a 0 with
 | .int (.ofNat b) _=>b
 |_=>0
def xK(a:uk)(c b:Nat):kz:=⟨Iy (l8 a 5 1),Iy (l8 a 5 0),Iy (l8 a 5 2),c,b,RT a 2,#[]⟩
def xL(c:Code)(a:uk):GN:=⟨ad c 1,OE a 1,ky a 1 1,ky a 1 2⟩
def fG(a:Nat):gi:=⟨.none,none,.fields #[.int 780 0,.int 23 0,.ref a],#[]⟩
def jH(b:Nat)(c:AL->AL):AL->AL:=λa=>c (cn b a)
def SX.Vw(a:SX):SX:={a with U3:=a.U3+1+1}
def SX.Vu(a:SX)(b:Nat)(c:dh):SX:={a with A:=a.A++ #[.ref b],U3:=a.U3+1+1+1,R:=a.R++[c]}
def SX.ext2(a:SX)(b c:Nat)(d e:dh):SX:={a with A:=a.A++ #[.ref b]++ #[.ref c],U3:=a.U3+1+1+1+1,R:=a.R++[d]++[e]}
def AI(d:WC)(b n:SX)(c:gi)(l g:Nat)(E:ug)(f:Nat)(k:Wy jz)(i:WA cl)(e:cl)(h:Wy Ev)(m:AL->AL)(j:AL->ug):Spec:=
 ⟨.block (qg 15) (iJ b.L),175,some b.L,⟨b.pre d c++[⟨l,cm E g,false⟩,⟨693,fG f,false⟩],[],λa _=>n.post d c (optN i) (qi i (j a) (a 1))++[cm E g,fG f],nn,λa _=>[⟨a 0,cp (h9 h e) (m a) (o3 e 2 h),false⟩],nn,⟨b.A,b.R⟩::k,nn⟩,λa _=>uj (.ref (a 0))⟩
def RO:Nat:=0x114444307f012000002203550151010700111001723
variable {f:AL->AL} {d:Wy Ev} {g:Wy WL} {h:CM} {a:SX}
theorem AJ{e c i n:Nat}(p:a.A.size<1000000)(o:OK u (jm (Pm u) a.Vw (d5 (Pm u) {h with extra:= .ref c} y g e) V k d f)):OK u (AI (Pm u) a a.Vw (d5 (Pm u) {h with extra:= .ref c} y g e) c i #[] n [] V k d (jH 5 f) λ_=>a.A):=by
 have q:cq u [λb j l=>Iv u (xK j c i) (xL b j) (ad b 0) a.A a.U3,λb j l=>jm (Pm u) a.Vw (d5 (Pm u) {h with extra:= .ref c} y g e) V k d f]:=⟨λb j l=>AF p,λb j l=>o,cg⟩
 exact gT RO [[6,0,1,2,7],[3,4,5,6]] [5,4,3,2,1,0,9] (dT [9,13,0,0,0] λm=>dI (odd (cn 8 m))) q (G:=[[0],[]]) (J:=[[],[.UO 0]])
variable {b:dh}
theorem AK{e c i n j:Nat}(r:a.A.size<1000000)(q:∀t,OK u (jm (Pm u) (a.Vu t b) (d5 (Pm u) {h with extra:= .ref c} y g e) V k d f)):OK u (AI (Pm u) a (a.Vu 0 b) (d5 (Pm u) {h with extra:= .ref c} y g e) c i #[.ref j] n [⟨#[.ref j],[b]⟩] V k d (jH 5 f) λp=>a.A++ #[.ref (p 2)]):=by
 have s:cq u [λl m o=>Iw u (xK m c i) (xL l m) (ad l 0) a.A a.U3 j b.1 b.2 a.R,λl m o=>jm (Pm u) (a.Vu (cH o 0 0) b) (d5 (Pm u) {h with extra:= .ref c} y g e) V k d f]:=⟨λl m o=>AG r,λl m o=>q _,cg⟩
 exact gT RO [[6,0,1,2,7],[3,4,5,6]] [5,4,3,2,1,0,9] (dT [9,13,8,0,0] λp=>dI (odd (cn 8 p))) s (G:=[[0],[]]) (J:=[[.UO 0,.UO 1],[.UO 0]])
variable {l:dh}
theorem AM{e c i n j m:Nat}(t:a.A.size+1<1000000)(s:∀w x,OK u (jm (Pm u) (a.ext2 w x b l) (d5 (Pm u) {h with extra:= .ref c} y g e) V k d f)):OK u (AI (Pm u) a (a.ext2 0 0 b l) (d5 (Pm u) {h with extra:= .ref c} y g e) c i #[.ref j,.ref m] n [⟨#[.ref j],[b]⟩,⟨#[.ref m],[l]⟩] V k d (jH 5 f) λr=>a.A++ #[.ref (r 2)]++ #[.ref (r 3)]):=by
 have v:cq u [λo q p=>Ix u (xK q c i) (xL o q) (ad o 0) a.A a.U3 j m b.1 b.2 l.1 l.2 a.R,λo q p=>jm (Pm u) (a.ext2 (cH p 0 0) (cH p 0 1) b l) (d5 (Pm u) {h with extra:= .ref c} y g e) V k d f]:=⟨λo q p=>AH t,λo q p=>s _ _,cg⟩
 exact gT RO [[6,0,1,2,7],[3,4,5,6]] [5,4,3,2,1,0,9] (dT [9,13,8,10,0] λr=>dI (odd (cn 8 r))) v (G:=[[0],[]]) (J:=[[.UO 0,.UO 1,.UO 2],[.UO 0]])
def Uf:Str:=lq "Commit._serialize.<locals>.<genexpr>"
def Ug(d b c a e:Nat):ui:=[.str (lq "/claim/cut.py") d,.int 780 0,.int 1 0,.int 0 0,.int 0 0,.int 51 0,.ref b,.bool true,.int 181 0,.ref c,.none,.none,.none,.none,.int (a:Nat) 0,.int 780 0,.str (lq "/claim/cut.py") e]
def OF(a c f d e b g:Nat):gi:=dq (.str (lq "<genexpr>") a) Uf c (Ug f d e b g)
def AN(d:WC)(b m:SX)(c:gi)(k f:Nat)(E:ug)(j:Wy jz)(h:WA cl)(e:cl)(g:Wy Ev)(l:AL->AL)(i:AL->ug):Spec:=
 ⟨.block (qg 15) (iJ b.L),175,some b.L,⟨b.pre d c++[⟨k,cm E f,false⟩,⟨693,fm,false⟩],[],λa _=>m.post d c (optN h) (qi h (i a) (a 1))++[cm E f,fG (a 4)],nn,λa _=>[⟨a 0,cp (h9 g e) (l a) (o3 e 2 g),false⟩,⟨a 4,OF (a 5) (a 6) (a 7) (a 8) (a 9) (a 10) (a 11),false⟩],nn,⟨b.A,b.R⟩::j,nn⟩,λa _=>uj (.ref (a 0))⟩
def RP:Nat:=0x114444307f0120000022035501510107000aaa00111001a23
theorem AO{e c i:Nat}(o:a.A.size<1000000)(n:OK u (jm (Pm u) a.Vw (d5 (Pm u) {h with extra:= .ref c} y g e) V k d f)):OK u (AN (Pm u) a a.Vw (d5 (Pm u) {h with extra:= .ref c} y g e) c i #[] [] V k d (jH 12 f) λ_=>a.A):=by
 have p:cq u [λb j l=>Iv u (xK j c i) (xL b j) (ad b 0) a.A a.U3,λb j l=>jm (Pm u) a.Vw (d5 (Pm u) {h with extra:= .ref c} y g e) V k d f]:=⟨λb j l=>AF o,λb j l=>n,cg⟩
 exact gT RP [[9,0,1,5,10],[6,7,8,9]] [5,4,3,2,1,0,12,9] (dT [17,21,0,0,9,2,3,4,5,6,7,8] λm=>dI (odd (cn 16 m))) p (G:=[[0],[]]) (J:=[[],[.UO 0]])
theorem AP{e c i j:Nat}(q:a.A.size<1000000)(p:∀s,OK u (jm (Pm u) (a.Vu s b) (d5 (Pm u) {h with extra:= .ref c} y g e) V k d f)):OK u (AN (Pm u) a (a.Vu 0 b) (d5 (Pm u) {h with extra:= .ref c} y g e) c i #[.ref j] [⟨#[.ref j],[b]⟩] V k d (jH 12 f) λo=>a.A++ #[.ref (o 2)]):=by
 have r:cq u [λl m n=>Iw u (xK m c i) (xL l m) (ad l 0) a.A a.U3 j b.1 b.2 a.R,λl m n=>jm (Pm u) (a.Vu (cH n 0 0) b) (d5 (Pm u) {h with extra:= .ref c} y g e) V k d f]:=⟨λl m n=>AG q,λl m n=>p _,cg⟩
 exact gT RP [[9,0,1,5,10],[6,7,8,9]] [5,4,3,2,1,0,12,9] (dT [17,21,16,0,9,2,3,4,5,6,7,8] λo=>dI (odd (cn 16 o))) r (G:=[[0],[]]) (J:=[[.UO 0,.UO 1],[.UO 0]])
theorem AQ{e c i j m:Nat}(s:a.A.size+1<1000000)(r:∀v w,OK u (jm (Pm u) (a.ext2 v w b l) (d5 (Pm u) {h with extra:= .ref c} y g e) V k d f)):OK u (AN (Pm u) a (a.ext2 0 0 b l) (d5 (Pm u) {h with extra:= .ref c} y g e) c i #[.ref j,.ref m] [⟨#[.ref j],[b]⟩,⟨#[.ref m],[l]⟩] V k d (jH 12 f) λq=>a.A++ #[.ref (q 2)]++ #[.ref (q 3)]):=by
 have t:cq u [λn p o=>Ix u (xK p c i) (xL n p) (ad n 0) a.A a.U3 j m b.1 b.2 l.1 l.2 a.R,λn p o=>jm (Pm u) (a.ext2 (cH o 0 0) (cH o 0 1) b l) (d5 (Pm u) {h with extra:= .ref c} y g e) V k d f]:=⟨λn p o=>AH s,λn p o=>r _ _,cg⟩
 exact gT RP [[9,0,1,5,10],[6,7,8,9]] [5,4,3,2,1,0,12,9] (dT [17,21,16,18,9,2,3,4,5,6,7,8] λq=>dI (odd (cn 16 q))) t (G:=[[0],[]]) (J:=[[.UO 0,.UO 1,.UO 2],[.UO 0]])
end
section
def xA(a:ug)(d b c:Nat):ug:=match d with
 |0=>a
 |1=>a++ #[.ref b]
 |_=>a++ #[.ref b]++ #[.ref c]
def SX.VQ(b:SX)(c e:Nat)(f:Wy dh):SX:=match f with
 |[]=>b.Vw
 |[a]=>b.Vu c a
 |a::d::_=>b.ext2 c e a d
def SX.Vz(f:WC)(a:SX)(e:gi)(b:ug)(g:Nat)(E:ug)(h:Nat)(i:gi):uk:=[r7 f a.c a.hl a.k1 a.k2 a.tl a.n,eu 888 a.d,e,cm b g,cm E h,i]
def SX.VR(b:WC)(f:SX)(a:gi)(d:Nat)(E:ug)(c:Nat)(e:gi):Wy cK:=f.pre b a++[⟨d,cm E c,false⟩,⟨693,e,false⟩]
def o7(d:WC)(b:SX)(c:gi)(l g:Nat)(E:ug)(i:Nat)(k:Wy dh)(f:Nat)(j:WA cl)(e:cl)(h:Wy Ev)(m:AL->AL):Spec:=
 ⟨.block (qg 15) (iJ b.L),175,some b.L,⟨b.VR d c l E g (fG f),[],λa _=>b.Vz d c (qi j (xA b.A i (a 2) (a 3)) (a 1)) (b.U3+(2+i)+optN j) E g (fG f),nn,λa _=>[⟨a 0,cp (h9 h e) (m a) (o3 e 2 h),false⟩],nn,[⟨b.A,b.R⟩,⟨E,k⟩],nn⟩,λa _=>uj (.ref (a 0))⟩
def o8(d:WC)(b:SX)(c:gi)(k f:Nat)(E:ug)(h:Nat)(j:Wy dh)(i:WA cl)(e:cl)(g:Wy Ev)(l:AL->AL):Spec:=
 ⟨.block (qg 15) (iJ b.L),175,some b.L,⟨b.VR d c k E f fm,[],λa _=>b.Vz d c (qi i (xA b.A h (a 2) (a 3)) (a 1)) (b.U3+(2+h)+optN i) E f (fG (a 4)),nn,λa _=>[⟨a 0,cp (h9 g e) (l a) (o3 e 2 g),false⟩,⟨a 4,OF (a 5) (a 6) (a 7) (a 8) (a 9) (a 10) (a 11),false⟩],nn,[⟨b.A,b.R⟩,⟨E,j⟩],nn⟩,λa _=>uj (.ref (a 0))⟩
variable {l:Nat}
theorem OG{a:Heap}{b:jz}{c d:dh}(g:dV a b)(f:dV a ⟨#[.ref j,.ref l],[c,d]⟩):∀B∈[b,⟨#[.ref j],[c]⟩,⟨#[.ref l],[d]⟩],dV a B:=λB e=>by
 rcases t6 e with rfl|e
 ·exact g
 ·rcases t6 e with rfl|e
  ·exact dV.at f (i:=0) rfl rfl
  ·rcases t6 e with rfl|e
   ·exact dV.at f (i:=1) rfl rfl
   ·cases e
variable {f:AL->AL} {d:Wy Ev} {m:Nat} {g:Wy WL} {b:CM} {a:SX}
theorem Ek(s:M.length<=2)(G:a.A.size<=100000)(x:b.extra= .ref c)(q:∀p v,OK u (jm (Pm u) (a.VQ p v M) (d5 (Pm u) b y g e) V k d f)):OK u (o7 (Pm u) a (d5 (Pm u) b y g e) c h (ei M.length j l) M.length M m V k d (jH 5 f)):=by
 have z:b={b with extra:= .ref c}:=by cases b;simp only at x;subst x;rfl
 rw[z]at q|-
 match M,s with
 |[],_=>exact ct.more (bs:=[⟨a.A,a.R⟩]) ((AJ (by omega) (q 0 0)).alt rfl rfl rfl rfl rfl rfl λn o=>⟨n,o,rfl,rfl,rfl,rfl,rfl,rfl⟩) λw i B r=>i B (List.mem_of_mem_head? (by cases r with|head=>rfl|tail _ C=>cases C))
 |[t],_=>exact ct.more (bs:=[⟨a.A,a.R⟩,⟨#[.ref j],[t]⟩]) ((AK (by omega) λp=>q p 0).alt rfl rfl rfl rfl rfl rfl λn o=>⟨n,o,rfl,rfl,rfl,rfl,rfl,rfl⟩) λw i B r=>i B r
 |[t,D],_=>exact ct.more (bs:=[⟨a.A,a.R⟩,⟨#[.ref j],[t]⟩,⟨#[.ref l],[D]⟩]) ((AM (by omega) λp v=>q p v).alt rfl rfl rfl rfl rfl rfl λn o=>⟨n,o,rfl,rfl,rfl,rfl,rfl,rfl⟩) λw i=>OG (i _ (.head _)) (i _ (.tail _ (.head _)))
 |_::_::_::_,s=>exact absurd s (by simp)
theorem El(r:M.length<=2)(D:a.A.size<=100000)(w:b.extra= .ref c)(p:∀o t,OK u (jm (Pm u) (a.VQ o t M) (d5 (Pm u) b y g e) V k d f)):OK u (o8 (Pm u) a (d5 (Pm u) b y g e) c h (ei M.length j l) M.length M V k d (jH 12 f)):=by
 have x:b={b with extra:= .ref c}:=by cases b;simp only at w;subst w;rfl
 rw[x]at p|-
 match M,r with
 |[],_=>exact ct.more (bs:=[⟨a.A,a.R⟩]) ((AO (by omega) (p 0 0)).alt rfl rfl rfl rfl rfl rfl λm n=>⟨m,n,rfl,rfl,rfl,rfl,rfl,rfl⟩) λv i B q=>i B (List.mem_of_mem_head? (by cases q with|head=>rfl|tail _ z=>cases z))
 |[s],_=>exact ct.more (bs:=[⟨a.A,a.R⟩,⟨#[.ref j],[s]⟩]) ((AP (by omega) λo=>p o 0).alt rfl rfl rfl rfl rfl rfl λm n=>⟨m,n,rfl,rfl,rfl,rfl,rfl,rfl⟩) λv i B q=>i B q
 |[s,C],_=>exact ct.more (bs:=[⟨a.A,a.R⟩,⟨#[.ref j],[s]⟩,⟨#[.ref l],[C]⟩]) ((AQ (by omega) λo t=>p o t).alt rfl rfl rfl rfl rfl rfl λm n=>⟨m,n,rfl,rfl,rfl,rfl,rfl,rfl⟩) λv i=>OG (i _ (.head _)) (i _ (.tail _ (.head _)))
 |_::_::_::_,r=>exact absurd r (by simp)
def si(d:WC)(b:SX)(c:gi)(m h:Nat)(E:ug)(j:Nat)(l:Wy dh)(f:Nat)(g k:WA cl)(e:cl)(i:Wy Ev)(n:AL->AL):Spec:=
 ⟨.block (qg 14) (iJ b.L),180,some b.L,⟨b.VR d c m E h (fG f),[],λa _=>b.Vz d c (qi k (xA (qi g b.A (a 4)) j (a 2) (a 3)) (a 1)) (b.U3+optN g+(2+j)+optN k) E h (fG f),nn,λa _=>[⟨a 0,cp (h9 i e) (n a) (o3 e 2 i),false⟩],nn,[⟨b.A,b.R⟩,⟨E,l⟩],nn⟩,λa _=>uj (.ref (a 0))⟩
def sj(d:WC)(b:SX)(c:gi)(l g:Nat)(E:ug)(i:Nat)(k:Wy dh)(f j:WA cl)(e:cl)(h:Wy Ev)(m:AL->AL):Spec:=
 ⟨.block (qg 14) (iJ b.L),180,some b.L,⟨b.VR d c l E g fm,[],λa _=>b.Vz d c (qi j (xA (qi f b.A (a 12)) i (a 2) (a 3)) (a 1)) (b.U3+optN f+(2+i)+optN j) E g (fG (a 4)),nn,λa _=>[⟨a 0,cp (h9 h e) (m a) (o3 e 2 h),false⟩,⟨a 4,OF (a 5) (a 6) (a 7) (a 8) (a 9) (a 10) (a 11),false⟩],nn,[⟨b.A,b.R⟩,⟨E,k⟩],nn⟩,λa _=>uj (.ref (a 0))⟩
theorem AR{E:ug}(o:OK u (o7 (Pm u) a (d5 (Pm u) {b with enc:= .none} y g e) c h E i M m V k d f)):OK u (si (Pm u) a (d5 (Pm u) {b with enc:= .none} y g e) c h E i M m none V k d (jH 5 f)):=
 bT H5 [[1,2,3,4,5,6]] [5,4,3,2,1,0,7] (dT [5,7,9,11,0] λj=>dI (cn 5 j)) ⟨λl p n=>o,cg⟩ (Y:=[λl p n=>o7 (Pm u) a (d5 (Pm u) {b with enc:= .none} y g e) c h E i M m V k d f]) (J:=[[.UO 0,.UO 1]])
variable {n:Nat}
theorem AS{l:cl}{E:ug}(v:l.size=n+1)(x:l.size<=1000000)(t:a.A.size<=1000000)(s:∀w,OK u (o7 (Pm u) (a.app w (cE .encoding,l)) (d5 (Pm u) {b with enc:= .bytes l j} y g e) c h E i M m V k d f)):OK u (si (Pm u) a (d5 (Pm u) {b with enc:= .bytes l j} y g e) c h E i M m (some l) V k d (jH 5 f)):=
 bT JW [[],[6],[3,4,5,6,7,8]] [5,4,3,2,1,0,9] (dT [20,28,36,44,16] λr=>dI (odd (cn 6 (odd (cn 5 r))))) ⟨λp o q=>cN (by rw[v]) (by omega),fU t,λp o q=>s _,cg⟩ (Y:=[fl l ((n+1:Nat):Int),mn a.A,λp o q=>o7 (Pm u) (a.app (l8 o 6 1) (cE .encoding,l)) (d5 (Pm u) {b with enc:= .bytes l j} y g e) c h E i M m V k d f]) (J:=[[],[],[.app (.UO 0) (.cells [0]),.UO 1]])
theorem AU{E:ug}(n:OK u (o8 (Pm u) a (d5 (Pm u) {b with enc:= .none} y g e) c h E i M V k d f)):OK u (sj (Pm u) a (d5 (Pm u) {b with enc:= .none} y g e) c h E i M none V k d (jH 13 f)):=
 bT H5 [[1,2,3,4,5,6]] [5,4,3,2,1,0,8,7] (dT [5,7,9,11,13,15,17,19,21,23,25,27,0] λj=>dI (cn 5 j)) ⟨λl o m=>n,cg⟩ (Y:=[λl o m=>o8 (Pm u) a (d5 (Pm u) {b with enc:= .none} y g e) c h E i M V k d f]) (J:=[[.UO 0,.UO 1]])
theorem AV{l:cl}{E:ug}(t:l.size=n+1)(w:l.size<=1000000)(s:a.A.size<=1000000)(r:∀v,OK u (o8 (Pm u) (a.app v (cE .encoding,l)) (d5 (Pm u) {b with enc:= .bytes l j} y g e) c h E i M V k d f)):OK u (sj (Pm u) a (d5 (Pm u) {b with enc:= .bytes l j} y g e) c h E i M (some l) V k d (jH 13 f)):=
 bT JW [[],[6],[3,4,5,6,7,8]] [5,4,3,2,1,0,10,9] (dT [20,28,36,44,52,60,68,76,84,92,100,108,16] λq=>dI (odd (cn 6 (odd (cn 5 q))))) ⟨λo m p=>cN (by rw[t]) (by omega),fU s,λo m p=>r _,cg⟩ (Y:=[fl l ((n+1:Nat):Int),mn a.A,λo m p=>o8 (Pm u) (a.app (l8 m 6 1) (cE .encoding,l)) (d5 (Pm u) {b with enc:= .bytes l j} y g e) c h E i M V k d f]) (J:=[[],[],[.app (.UO 0) (.cells [0]),.UO 1]])
end
section
variable {i:AL->AL} {d:Wy Ev} {h:WA cl} {m l:Nat} {j:Wy WL} {b:SX}
theorem Em{a:CM}{E:ug}(w:ko V)(t:b.A.size<=1000000)(o:a.enc=iX V l)(n:∀x,OK u (o7 (Pm u) (b.opt V (cE .encoding) x) (d5 (Pm u) a y j f) c e E g M m h k d i)):OK u (si (Pm u) b (d5 (Pm u) a y j f) c e E g M m V h k d (jH 5 i)):=by
 cases V with
 |none=>
  have q:a={a with enc:= .none}:=by cases a;simp only at o;subst o;rfl
  rw[q]at n|-;exact AR (n .none)
 |some p=>
  have q:a={a with enc:= .bytes p l}:=by cases a;simp only at o;subst o;rfl
  rw[q]at n|-;obtain⟨z,s⟩:=w p rfl;obtain⟨r,v⟩:∃r,p.size=r+1:=⟨p.size-1,by omega⟩;exact AS v s t n
theorem En{a:CM}{E:ug}(v:ko V)(s:b.A.size<=1000000)(n:a.enc=iX V l)(m:∀w,OK u (o8 (Pm u) (b.opt V (cE .encoding) w) (d5 (Pm u) a y j f) c e E g M h k d i)):OK u (sj (Pm u) b (d5 (Pm u) a y j f) c e E g M V h k d (jH 13 i)):=by
 cases V with
 |none=>
  have p:a={a with enc:= .none}:=by cases a;simp only at n;subst n;rfl
  rw[p]at m|-;exact AU (m .none)
 |some o=>
  have p:a={a with enc:= .bytes o l}:=by cases a;simp only at n;subst n;rfl
  rw[p]at m|-;obtain⟨x,r⟩:=v o rfl;obtain⟨q,t⟩:∃q,o.size=q+1:=⟨o.size-1,by omega⟩;exact AV t r s m
structure SD where
 i1:Fin 3
 j1:Fin 4
 z1:Fin 6
 i2:Fin 3
 j2:Fin 4
 z2:Fin 6
 tree:cl
 ps:Wy cl
 en:WA cl
 xs:Wy dh
 sg:WA cl
 body:cl
def Iz(a:SD)(g c:Wz)(f:Bool)(e d:Nat)(b:AL):CM:=⟨g,c,f,.ref e,iX a.en (b 0),iX a.sg (b 1),.ref d,.bool (cL a.z1).2.2,.bool (cL a.z2).2.2,.bytes a.tree (b 2),.bytes a.body (b 3),.bytes (dv a.i1) (b 4),.int (dt.getD a.j1.val 0) (b 5),.int (cL a.z1).2.1 (b 6),.bytes (dv a.i2) (b 7),.int (dt.getD a.j2.val 0) (b 8),.int (cL a.z2).2.1 (b 9)⟩
def OH(d:Nat)(a:WC)(c:CM)(b:AL):Wy WL:=match d with
 |0=>Gk a c b
 |_=>Gl a c b
def o9(d:Nat)(a:WC)(c:CM)(b:AL):gi:=d5 a c b (OH d a c b) 18
def d9(a:Wy dh)(c:WA cl)(b:cl):Wy dh:=match c with
 |none=>a
 |some d=>a++[(b,d)]
def nL(a:Wy dh)(d:Wy dh):Wy dh:=match d with
 |[]=>a
 |[b]=>a++[b]
 |b::c::_=>a++[b]++[c]
def AW(a:SD):dh:=(cE .UK,dk a.i1 a.j1 a.z1)
def AX(a:SD):dh:=(cE .UL,dk a.i2 a.j2 a.z2)
def pa(a:SD):Wy dh:=((cE .tree,a.tree)::jP a.ps)++[AW a]++[AX a]
def xM(a:SD):Wy dh:=d9 (nL (d9 (pa a) a.en (cE .encoding)) a.xs) a.sg (cE .sig)
theorem vX(c:SX)(a:WA cl)(b:cl)(d:Wz):(c.opt a b d).R=d9 c.R a b:=by cases a<;>rfl
theorem Gn(b:SX)(d e:Nat)(a:Wy dh):(b.VQ d e a).R=nL b.R a:=by
 match a with
 |[]=>rfl
 |[c]=>rfl
 |c::f::_=>rfl
theorem vY(a:SX)(b:WA cl)(d:cl)(c:Wz):(a.opt b d c).A.size<=a.A.size+1:=by
 cases b with
 |none=>exact Nat.le_succ _
 |some e=>show(a.A++ #[c]).size<=_;rw[Array.size_append];exact Nat.le_refl _
theorem Go(a:SX)(d e:Nat)(b:Wy dh):(a.VQ d e b).A.size<=a.A.size+2:=by
 match b with
 |[]=>exact Nat.le_add_right _ _
 |[c]=>show(a.A++ #[_]).size<=_;rw[Array.size_append];show _+1<=_;omega
 |c::f::_=>show(a.A++ #[_]++ #[_]).size<=_;rw[Array.size_append,Array.size_append];exact Nat.le_refl _
structure mr(v:SD)(Vp:Wy Ev):Prop where
 ps:v.ps.length<=3
 xs:v.xs.length<=2
 en:ko v.en
 sg:ko v.sg
 body:v.body.size<=1000000
 ev:Ih (xM v) Vp
variable {g:Wz} {a:SD}
theorem vZ(i:Nat)(h:Ih b.R d)(e:a.body.size<=1000000):OK u (r9 (Pm u) b (o9 i (Pm u) (Iz a g v D f c z) y) a.body d qh):=by
 match i with
 |0=>exact D8 (x:=Iz a g v D f c z) (tb:=z 3) h e
 |_+1=>exact D9 (x:=Iz a g v D f c z) (tb:=z 3) h e
theorem AY{h i:Nat}(k:Nat)(j:mr a d)(r:b.A.size<=1000)(l:b.R=pa a):OK u (si (Pm u) b (o9 k (Pm u) (Iz a g v D f c z) y) c e (ei a.xs.length h i) a.xs.length a.xs m a.en a.sg a.body d (jH 5 (jH 5 (Ea qh)))):=
 Em j.en (by omega) rfl λv1=>Ek j.xs (by have:=vY b a.en (cE .encoding) v1;omega) rfl λn o=>AC j.sg (by
  have p:=vY b a.en (cE .encoding) v1;have q:=Go (b.opt a.en (cE .encoding) v1) n o a.xs;omega) rfl λv2=>vZ k (by rw[vX,Gn,vX,l];exact j.ev) j.body
theorem AZ{h i:Nat}(k:Nat)(j:mr a d)(q:b.A.size<=1000)(l:b.R=pa a):OK u (sj (Pm u) b (o9 k (Pm u) (Iz a g v D f c z) y) c e (ei a.xs.length h i) a.xs.length a.xs a.en a.sg a.body d (jH 13 (jH 12 (Ea qh)))):=
 En j.en (by omega) rfl λv1=>El j.xs (by have:=vY b a.en (cE .encoding) v1;omega) rfl λm n=>AC j.sg (by
  have o:=vY b a.en (cE .encoding) v1;have p:=Go (b.opt a.en (cE .encoding) v1) m n a.xs;omega) rfl λv2=>vZ k (by rw[vX,Gn,vX,l];exact j.ev) j.body
end
section
def RX(c:Code):Nat:=(gS c).frame.getD 0
def Ts(f:WC)(g i h:Nat)(d:SD)(e:AL):U:=λc b j=>let a:=b[0]?.getD default
 Tl f g (hu (cF a 1)) (dN a 0) (dN a 1) (hi c) i (Dp c) (hu (l8 b 4 1)) h (eJ b 3) d.tree d.ps e
def Eo(b:Fin 3)(c:Fin 4)(e:Fin 6):U:=λa d f=>NR b c e (ad a 2) (tk a 0) (tk a 1) (lk d 0 0)
def IA(d:SD):U:=λc b a=>mn (r8 (hu (l8 b 3 1)) d.ps (cH a 1 0) (cH a 1 1) (cH a 1 2)) c b a
def IB(d:SD):U:=λc b a=>mn (r8 (hu (l8 b 5 1)) d.ps (cH a 3 0) (cH a 3 1) (cH a 3 2)++ #[l8 b 2 1]) c b a
def RY(g:WC)(h i:Nat)(d:SD)(f:AL)(c:Code)(a:uk)(b:Wy AL):SX:=let e:=a[0]?.getD default
 ⟨RX c,h,i,hu (cF e 1),dN e 0,dN e 1,Oo g d.ps f (cH b 4 3),Op d.ps,r8 (hu (l8 a 11 1)) d.ps (cH b 4 0) (cH b 4 1) (cH b 4 2)++ #[l8 a 8 1]++ #[l8 a 6 1],eJ a 3,pa d⟩
theorem lL(d:Nat)(a:Wy cl)(b e c:Nat):(r8 d a b e c).size<=4:=by
 unfold r8;rw[Array.size_append]
 match a with
 |[]=>exact Nat.le_of_ble_eq_true rfl
 |[_]=>exact Nat.le_of_ble_eq_true rfl
 |[_,_]=>exact Nat.le_of_ble_eq_true rfl
 |_::_::_::_=>exact Nat.le_of_ble_eq_true rfl
variable {e:SD}
theorem v8:∀a c b,OK u (IA e a c b):=λa c b=>fU (Nat.le_trans (lL _ _ _ _ _) (by decide)) a c b
theorem v9:∀c b a,OK u (IB e c b a):=λc b a=>fU (by
 rw[Array.size_append];have:=lL (hu (l8 b 5 1)) e.ps (cH a 3 0) (cH a 3 1) (cH a 3 2);show _+1<=_;omega) c b a
theorem sk{d:WC}{c:Code}{b:uk}{a:Wy AL}:(RY d f g e y c b a).A.size<=1000:=by show(r8 _ _ _ _ _++ #[_]++ #[_]).size<=_;rw[Array.size_append,Array.size_append];have:=lL (hu (l8 b 11 1)) e.ps (cH a 4 0) (cH a 4 1) (cH a 4 2);show _+1+1<=_;omega
def QD:AL->AL:=jH 1 (jH 5 (jH 5 (Ea qh)))
def JX:AL->AL:=jH 9 (jH 13 (jH 12 (Ea qh)))
structure SA where
 (c d lp le ep VC a b:Nat)
 (F ks t:AL)
def SA.xx(a:SA)(e:SD)(d b:Wz)(c:Bool):CM:=Iz e d b c a.lp a.le a.t
def SA.cells(g:WC)(e:SA)(f:SD)(k:Nat)(j h:Wz)(i:Bool):Wy (Nat×gi):=[(e.c,eu 888 e.d),(e.d,o9 k g (e.xx f j h i) e.ks),(e.lp,cp f.ps e.F e.ep),(e.le,cm (ei f.xs.length e.a e.b) e.VC)]
def SA.objs(f:WC)(c:SA)(e:SD)(j:Nat)(i g:Wz)(h:Bool):uk:=[eu 888 c.d,o9 j f (c.xx e i g h) c.ks,cp e.ps c.F c.ep,cm (ei e.xs.length c.a c.b) c.VC]
def SA.UO(c:SA)(d:SD):jz:=⟨ei d.xs.length c.a c.b,d.xs⟩
def Gp(e:WC)(k:Nat)(d:SA)(b:SD)(j g:Wz)(i:Bool)(f:Nat)(h:Wy Ev):Spec:=
 ⟨ul 698 [.ref d.c],195,none,⟨pl (d.cells e b k j g i++[(693,fG f)]),[],λa _=>d.objs e b k j g i++[fG f],nn,λa _=>[⟨a 0,cp (h9 h b.body) (QD a) (o3 b.body 2 h),false⟩],nn,[d.UO b],nn⟩,λa _=>uj (.ref (a 0))⟩
def t4(e:WC)(j:Nat)(d:SA)(b:SD)(i f:Wz)(h:Bool)(g:Wy Ev):Spec:=
 ⟨ul 698 [.ref d.c],195,none,⟨pl (d.cells e b j i f h++[(693,fm)]),[],λa _=>d.objs e b j i f h++[fG (a 1)],nn,λa _=>[⟨a 0,cp (h9 g b.body) (JX a) (o3 b.body 2 g),false⟩,⟨a 1,OF (a 2) (a 3) (a 4) (a 5) (a 6) (a 7) (a 8),false⟩],nn,[d.UO b],nn⟩,λa _=>uj (.ref (a 0))⟩
def QB:Nat:=0x1000111010221f19f121111023318f3110f33040012213431cf4114f4405660161011f13ff13ff13f113fe1af14333300f12ff12ff12f4531bf5113f55062abf52f13ff13ff13f113fe1af16555500f12ff12ff12f6207f017000007708001001723
variable {g:Wy Ev} {c:SA}
theorem Ep(m:mr e g)(o:f<2):OK u (Gp (Pm u) f c e x v D h g):=by
 have n:cq u [mn #[],Ts (Pm u) c.c c.lp c.ep e c.F,Eo e.i1 e.j1 e.z1,IA e,Eo e.i2 e.j2 e.z2,IB e,λi k j=>si (Pm u) (RY (Pm u) c.c c.d e c.F i k j) (o9 f (Pm u) (c.xx e x v D) c.ks) c.le c.VC (ei e.xs.length c.a c.b) e.xs.length e.xs h e.en e.sg e.body g (jH 5 (jH 5 (Ea qh)))]:=⟨fU (Nat.zero_le _),λi k j=>Gj m.ps,λi k j=>p8,v8,λi k j=>p8,v9,λi k j=>AY f m sk rfl,cg⟩
 clear m
 match f,o with
 |0,_=>exact oT QB [[1],[3,0,6,2],[0],[4],[0],[6],[7,8,9,6,11,12]] [4,3,2,1,0,13] (dT [294] λl=>dI (odd (cn 1 (odd (cn 9 (odd (cn 1 (odd (cn 9 (odd (cn 2 (odd (cn 7 l))))))))))))) n (J:=[[],[.cells [1]],[],[],[],[],[.app (.app (.UO 0) (.cells [2])) (.cells [0]),.UO 1]])
 |1,_=>exact oT QB [[1],[3,0,6,2],[0],[4],[0],[6],[7,8,9,6,11,12]] [4,3,2,1,0,13] (dT [294] λl=>dI (odd (cn 1 (odd (cn 9 (odd (cn 1 (odd (cn 9 (odd (cn 2 (odd (cn 7 l))))))))))))) n (J:=[[],[.cells [1]],[],[],[],[],[.app (.app (.UO 0) (.cells [2])) (.cells [0]),.UO 1]])
def Q9:uh:=[294,806,934,1062,1190,1318,1446,1574,1702]
theorem Er(l:mr e g)(n:f<2):OK u (t4 (Pm u) f c e x v D g):=by
 have m:cq u [mn #[],Ts (Pm u) c.c c.lp c.ep e c.F,Eo e.i1 e.j1 e.z1,IA e,Eo e.i2 e.j2 e.z2,IB e,λh j i=>sj (Pm u) (RY (Pm u) c.c c.d e c.F h j i) (o9 f (Pm u) (c.xx e x v D) c.ks) c.le c.VC (ei e.xs.length c.a c.b) e.xs.length e.xs e.en e.sg e.body g (jH 13 (jH 12 (Ea qh)))]:=⟨fU (Nat.zero_le _),λh j i=>Gj l.ps,λh j i=>p8,v8,λh j i=>p8,v9,λh j i=>AZ f l sk rfl,cg⟩
 clear l
 match f,n with
 |0,_=>exact oT QB [[1],[3,0,6,2],[0],[4],[0],[6],[7,8,9,6,11,12]] [4,3,2,1,0,14,13] (dT Q9 λk=>dI (odd (cn 1 (odd (cn 9 (odd (cn 1 (odd (cn 9 (odd (cn 2 (odd (cn 7 k))))))))))))) m (J:=[[],[.cells [1]],[],[],[],[],[.app (.app (.UO 0) (.cells [2])) (.cells [0]),.UO 1]])
 |1,_=>exact oT QB [[1],[3,0,6,2],[0],[4],[0],[6],[7,8,9,6,11,12]] [4,3,2,1,0,14,13] (dT Q9 λk=>dI (odd (cn 1 (odd (cn 9 (odd (cn 1 (odd (cn 9 (odd (cn 2 (odd (cn 7 k))))))))))))) m (J:=[[],[.cells [1]],[],[],[],[],[.app (.app (.UO 0) (.cells [2])) (.cells [0]),.UO 1]])
end
section
structure s3(bs:Wy cl)(T:cl):Prop where
 ne:bs≠[]
 j:eI #[] bs=T
 sz:T.size<=1000000
 fd:bs.foldl (· + ·.size) ((#[]:cl).size*(bs.length-1))<=16777216
theorem jo{a:Wy AL->AL}(b:s3 A k):∀c e d,OK u (hf #[] A k a c e d):=λc e d=>h3 b.ne b.j (Nat.le_trans b.sz (by decide)) b.fd
def OI(j:WC)(c a i f:Nat)(b:gi)(e:Wy cl)(d:AL)(g:cl):Spec:=
 ⟨ul 256 [.ref c],60,none,UM [(c,eu 888 a),(a,b),(i,cp e d f)] (λ_=>[eu 888 a,b,cp e d f]) (λ_=>[]),λh _=>uj (.bytes g (h 0))⟩
def Tq:Nat:=0x151ff805f2213f220bf11100f12ff12f307f013000003304012
theorem wa{b:CM}{z:AL}{y:AL}(g:s3 A k)(h:a<2):OK u (OI (Pm u) c e d f (o9 a (Pm u) {b with U8:=false,U4:= .ref d} z) A y k):=by
 match a,h with
 |0,_=>exact oT Tq [[4]] [2,1,0] (cJ [10]) ⟨jo g,cg⟩ (Y:=[hf #[] A k λ_=>y])
 |1,_=>exact oT Tq [[4]] [2,1,0] (cJ [10]) ⟨jo g,cg⟩ (Y:=[hf #[] A k λ_=>y])
def Es(e:WC)(h:Nat)(d:SA)(b:SD)(k j:Wz)(f:Nat)(g:Wy Ev)(i:cl):Spec:=
 ⟨ul 256 [.ref d.c],230,none,⟨pl (d.cells e b h k j true++[(693,fG f)]),[],λa _=>d.objs e b h .none (.ref (a 1)) false++[fG f],nn,λa _=>[⟨a 1,cp (h9 g b.body) (jH 2 QD a) (o3 b.body 2 g),false⟩],nn,[d.UO b],nn⟩,λa _=>uj (.bytes i (a 0))⟩
def OJ(e:WC)(g:Nat)(d:SA)(b:SD)(j i:Wz)(f:Wy Ev)(h:cl):Spec:=
 ⟨ul 256 [.ref d.c],230,none,⟨pl (d.cells e b g j i true++[(693,fm)]),[],λa _=>d.objs e b g .none (.ref (a 1)) false++[fG (a 2)],nn,λa _=>[⟨a 1,cp (h9 f b.body) (jH 10 JX a) (o3 b.body 2 f),false⟩,⟨a 2,OF (a 3) (a 4) (a 5) (a 6) (a 7) (a 8) (a 9),false⟩],nn,[d.UO b],nn⟩,λa _=>uj (.bytes h (a 0))⟩
def RU:Nat:=0x151ff805f2213f220bf111507f0423f30418f013013511f4441705f0300003401f18fd18f140313f055f12f52207f014000004405012
variable {b:Wy Ev} {d:Wz} {c:SD} {e:SA}
theorem A0(i:mr c b)(m:a<2)(j:s3 (h9 b c.body) k):OK u (Es (Pm u) a e c v d f b k):=by
 have l:cq u [λn o h=>Gp (Pm u) a e c .none d true f b,hf #[] (h9 b c.body) k λh=>QD (cH h 0)]:=⟨λn o h=>Ep i m,jo j,cg⟩
 clear i j
 match a,m with
 |0,_=>exact oT RU [[2,3,4,5,6],[0]] [4,3,2,1,0,7] (dT [23,10] λg=>dI (cn 10 g)) l (J:=[[.UO 0],[]])
 |1,_=>exact oT RU [[2,3,4,5,6],[0]] [4,3,2,1,0,7] (dT [23,10] λg=>dI (cn 10 g)) l (J:=[[.UO 0],[]])
def RV:Nat:=0x151ff805f2213f220bf111507f0423f30418f013013511f4441705f0300003401f18fd18f150313f066f12f63207f015000005506012
def UV:uh:=[23,10,12,14,16,18,20,22,24,26]
theorem IC(h:mr c b)(l:a<2)(i:s3 (h9 b c.body) k):OK u (OJ (Pm u) a e c v d b k):=by
 have j:cq u [λm n g=>t4 (Pm u) a e c .none d true b,hf #[] (h9 b c.body) k λg=>JX (cH g 0)]:=⟨λm n g=>Er h l,jo i,cg⟩
 clear h i
 match a,l with
 |0,_=>exact oT RV [[2,3,4,5,6],[0]] [4,3,2,1,0,8,7] (dT UV λf=>dI (cn 10 f)) j (J:=[[.UO 0],[]])
 |1,_=>exact oT RV [[2,3,4,5,6],[0]] [4,3,2,1,0,8,7] (dT UV λf=>dI (cn 10 f)) j (J:=[[.UO 0],[]])
end
section
def OL(a:cl)(c:Nat)(b:Str)(d:Nat):Spec:=⟨ul 200 [.bytes a c,.str b d],40,none,UM [] (λ_=>[]) (λ_=>[]),λ_ _=>uj .none⟩
def QE:Nat:=0x1353f1041bf315f0f0dfb0ff0602f314f00301100001703ff0aff0aff0af30af11011111211001
variable {b:Str}
theorem A1(d:Fin 3):OK u (OL (dv d) a b c):=by
 match d with
 |0=>exact oT QE [] [] (cJ []) trivial (Y:=[])
 |1=>exact oT QE [] [] (cJ []) trivial (Y:=[])
 |2=>exact oT QE [] [] (cJ []) trivial (Y:=[])
def uM:cl:= #[65,32,60,60,98,62]
def OM(b:Nat)(a:Str)(c:Nat):Spec:=F7 (.call (.ref 200) ⟨[.bytes uM b,.str a c],[]⟩) 40 [] (.ref 44) λ_=>.none
theorem ID:OK u (OM a b c):=
 oT 0x1353f1298f55bf00f0dfb0ff0602f314f00301239f703ff0af11101111121107209f30ff30af02101100f0110101022222022021311 [[]] [8,10] (cJ [37,38,40,0]) ⟨es,cg⟩ (Y:=[hE]) (Z:=g4 [22])
def RZ(b:Fin 4)(a:Nat):Spec:=⟨ul 207 [.int (dt.getD b.val 0) a],20,none,UM [] (λ_=>[]) (λ_=>[]),λ_ _=>uj .none⟩
def Tt:Nat:=0x10001110010011
theorem uN(b:Fin 4):OK u (RZ b a):=by
 match b with
 |0=>exact oT Tt [] [] (cJ []) trivial (Y:=[])
 |1=>exact oT Tt [] [] (cJ []) trivial (Y:=[])
 |2=>exact oT Tt [] [] (cJ []) trivial (Y:=[])
 |3=>exact oT Tt [] [] (cJ []) trivial (Y:=[])
end
section
def R1(a:Nat):Env:=xi [53] (lq "_strip_signature_headers.<locals>.") 656 655 a []
def wC(a:Nat):Code:=SG [53,4] (R1 a)
structure WS where
 (L pl:Nat)
 T:cl
 (tT k0 k1 k2 k3 k4:Nat)
def ON(b:WC)(a:WS)(d:Bool)(e:Int)(g:Nat)(c:Int)(f:Nat):gi:=ot [dx b "raw" a.k0 (.bytes a.T a.tT),dx b "payload" a.k1 (.ref a.pl),dx b "in_header" a.k2 (.bool d),dx b "start" a.k3 (.int e g),dx b "end" a.k4 (.int c f)] 5
structure WE where
 ih:Bool
 (s e:Int)
 bs:Wy cl
def Ca(d:WC)(a:WS)(i:Bool)(j:Int)(l:Nat)(g:Int)(k:Nat)(f:Wy cl)(e:AL)(h:Nat)(c:WE):Spec:=
 ⟨wC a.L,60,some a.L,⟨[⟨a.L,ON d a i j l g k,true⟩,⟨a.pl,cp f e h,false⟩],[],λb _=>[ON d a c.ih c.s (b 0) c.e (b 1),cp c.bs (cn 3 b) (b 2)],nn,nn,nn,[],nn⟩,λ_ _=>.ok .next⟩
def pc(a:WS)(c:Int)(b:Nat):Wy U:=[fl a.T (a.T.size:Nat),JQ c (a.T.size:Nat) true,pT a.T #[10] c b,CV ((b:Int)+1) 0 false]
def A2(d:WC)(h:WS)(g:Bool)(b:Nat)(e:Wy cl)(f:uk->AL)(i:WE):U:=λj a k=>let c:=a[0]?.getD default
 Ca d h g ((b:Int)+1) (df (cF c 3)) ((b:Int)+1) (df (cF c 4)) e (f a) (eJ a 1) i
def Tu:Nat:=0x13100207f2108f01106f121111309f222210f23334444333001201524442
variable {b:WE} {a:WS}
theorem OO(g:dA a.T q k c)(s:cG k (cE .sig)=false)(t:cG k #[10]=false)(v:A.length<=1000000)(x:∀l C o z m p,l=((c:Int)+1)->OK u (Ca (Pm u) a false l C o z (A++[k]) m p b)):OK u (Ca (Pm u) a false q f r e A y d b):=by
 have w:cq u (pc a q c++[du a.T k (some q) (some ((c:Int)+1)),vx k (cE .sig) false,du a.T k (some q) (some ((c:Int)+1)),vx k #[10] false,du a.T k (some q) (some ((c:Int)+1)),rC A y k,A2 (Pm u) a false c (A++[k]) (λh=>mm y A.length (df (l8 h 2 1))) b]):=⟨λi h j=>cN rfl (by have:=g.big;omega),λi h j=>i9 (decide_eq_true g.lt),λi h j=>fO g.p0 g.find,λi h j=>iD (by simp;omega),de (dB g) (by have:=g.big;omega),λi h j=>hA s,de (dB g) (by have:=g.big;omega),λi h j=>hA t,de (dB g) (by have:=g.big;omega),iz v,λi h j=>x _ _ _ _ _ _ rfl,cg⟩
 exact oT Tu [[],[],[],[],[0],[],[0],[],[0],[4],[3,4]] [1,0] (dT [] λn=>dI (cn 1 (odd (odd (cn 2 (odd (cn 1 (odd (cn 1 (odd (cn 1 (odd (cn 1 (odd (cn 4 (odd (cn 1 (odd (odd n))))))))))))))))))) w
theorem OP(g:dA a.T q k c)(s:cG k (cE .sig)=true)(v:∀l x o w m p,l=((c:Int)+1)->OK u (Ca (Pm u) a true l x o w A m p b)):OK u (Ca (Pm u) a false q f r e A y d b):=by
 have t:cq u (pc a q c++[du a.T k (some q) (some ((c:Int)+1)),vx k (cE .sig) true,A2 (Pm u) a true c A (λ_=>y) b]):=⟨λh j i=>cN rfl (by have:=g.big;omega),λh j i=>i9 (decide_eq_true g.lt),λh j i=>fO g.p0 g.find,λh j i=>iD (by simp;omega),de (dB g) (by have:=g.big;omega),λh j i=>hA s,λh j i=>v _ _ _ _ _ _ rfl,cg⟩
 exact oT 0x13100207f2108f01106f121111001201200f2 [[],[],[],[],[0],[],[1,2]] [1,0] (dT [] λn=>dI (cn 2 (odd (cn 1 (odd (cn 1 (odd (cn 4 (odd (cn 1 (odd (odd n)))))))))))) t
theorem OQ(g:dA a.T q k c)(s:cG k #[32]=true)(v:∀l x o w m p,l=((c:Int)+1)->OK u (Ca (Pm u) a true l x o w A m p b)):OK u (Ca (Pm u) a true q f r e A y d b):=by
 have t:cq u (pc a q c++[du a.T k (some q) (some ((c:Int)+1)),vx k #[32] true,A2 (Pm u) a true c A (λ_=>y) b]):=⟨λh j i=>cN rfl (by have:=g.big;omega),λh j i=>i9 (decide_eq_true g.lt),λh j i=>fO g.p0 g.find,λh j i=>iD (by simp;omega),de (dB g) (by have:=g.big;omega),λh j i=>hA s,λh j i=>v _ _ _ _ _ _ rfl,cg⟩
 exact oT 0x13100207f2108f01106f12111100120122222 [[],[],[],[],[0],[],[1,2]] [1,0] (dT [] λn=>dI (cn 1 (odd (cn 1 (odd (cn 1 (odd (cn 4 (odd (cn 1 (odd (odd n)))))))))))) t
end
section
def R2(d:WC)(a:WS)(g:Bool)(h:Int)(i:Nat)(j:Int)(m:Nat)(b:Wy cl)(c:AL)(f k:Nat)(l:cl):Spec:=
 ⟨wC a.L,60,some a.L,⟨[⟨a.L,ON d a g h i j m,true⟩,⟨a.pl,cp b c f,false⟩],[],λe _=>[ON d a g h i ((k:Int)+1) (e 0),cp (b++[l]) (mm c b.length (e 1)) (f+1)],nn,nn,nn,[],nn⟩,λ_ _=>.ok .next⟩
variable {a:WS}
theorem IE(b:dA a.T q k c)(j:cG k (cE .sig)=false)(m:cG k #[10]=true)(o:a.T.extract (dE (some q) a.T.size 0).toNat (dE none a.T.size a.T.size).toNat=l)(n:A.length<=1000000):OK u (R2 (Pm u) a false q e r f A y d c l):=by
 have p:cq u (pc a q c++[du a.T k (some q) (some ((c:Int)+1)),vx k (cE .sig) false,du a.T k (some q) (some ((c:Int)+1)),vx k #[10] true,du a.T l (some q) none,rC A y l]):=⟨λg i h=>cN rfl (by have:=b.big;omega),λg i h=>i9 (decide_eq_true b.lt),λg i h=>fO b.p0 b.find,λg i h=>iD (by simp;omega),de (dB b) (by have:=b.big;omega),λg i h=>hA j,de (dB b) (by have:=b.big;omega),λg i h=>hA m,de o (by have:=b.big;omega),iz n,cg⟩
 exact oT 0x13100207f2108f01106f121111309f22220df2344443300120152 [[],[],[],[],[0],[],[0],[],[0],[4]] [1,0] (cJ [19,787]) p
theorem IF(b:dA a.T q k c)(j:cG k #[32]=false)(m:cG k (cE .sig)=false)(n:cG k #[10]=true)(p:a.T.extract (dE (some q) a.T.size 0).toNat (dE none a.T.size a.T.size).toNat=l)(o:A.length<=1000000):OK u (R2 (Pm u) a true q e r f A y d c l):=by
 have s:cq u (pc a q c++[du a.T k (some q) (some ((c:Int)+1)),vx k #[32] false,du a.T k (some q) (some ((c:Int)+1)),vx k (cE .sig) false,du a.T k (some q) (some ((c:Int)+1)),vx k #[10] true,du a.T l (some q) none,rC A y l]):=⟨λg i h=>cN rfl (by have:=b.big;omega),λg i h=>i9 (decide_eq_true b.lt),λg i h=>fO b.p0 b.find,λg i h=>iD (by simp;omega),de (dB b) (by have:=b.big;omega),λg i h=>hA j,de (dB b) (by have:=b.big;omega),λg i h=>hA m,de (dB b) (by have:=b.big;omega),λg i h=>hA n,de p (by have:=b.big;omega),iz o,cg⟩
 exact oT 0x13100207f2108f01106f121111309f222309f33320df2455554400120162 [[],[],[],[],[0],[],[0],[],[0],[],[0],[5]] [1,0] (cJ [19,3091]) s
theorem Gr(g:OK u (R2 (Pm u) a D q e r f A y d c l)):OK u (Ca (Pm u) a D q e r f A y d ⟨D,q,(c:Int)+1,A++[l]⟩):=
 g.alt rfl rfl rfl rfl rfl rfl λb h=>⟨cons e (cons (b 0) (cons (d+1) (mm y A.length (b 1)))),h,rfl,rfl,rfl,rfl,rfl,rfl⟩
inductive pd (T:cl):Bool->Int->Wy cl->WE->Prop where
 |keep {s:Int} {line:cl} {n:Nat} {bs:Wy cl} {z:WE} (hl:dA T s line n) (h1:cG line (cE .sig)=false) (h2:cG line #[10]=false) (hb:bs.length<=1000000) (t:pd T false ((n:Int)+1) (bs++[line]) z):pd T false s bs z
 |sig {s:Int} {line:cl} {n:Nat} {bs:Wy cl} {z:WE} (hl:dA T s line n) (h1:cG line (cE .sig)=true) (t:pd T true ((n:Int)+1) bs z):pd T false s bs z
 |cont {s:Int} {line:cl} {n:Nat} {bs:Wy cl} {z:WE} (hl:dA T s line n) (h1:cG line #[32]=true) (t:pd T true ((n:Int)+1) bs z):pd T true s bs z
 |Wk {s:Int} {line rest:cl} {n:Nat} {bs:Wy cl} (hl:dA T s line n) (h1:cG line (cE .sig)=false) (h2:cG line #[10]=true) (hr:T.extract (dE (some s) T.size 0).toNat (dE none T.size T.size).toNat=rest) (hb:bs.length<=1000000):pd T false s bs ⟨false,s,(n:Int)+1,bs++[rest]⟩
 |Wd {s:Int} {line rest:cl} {n:Nat} {bs:Wy cl} (hl:dA T s line n) (h0:cG line #[32]=false) (h1:cG line (cE .sig)=false) (h2:cG line #[10]=true) (hr:T.extract (dE (some s) T.size 0).toNat (dE none T.size T.size).toNat=rest) (hb:bs.length<=1000000):pd T true s bs ⟨true,s,(n:Int)+1,bs++[rest]⟩
theorem OR{x:WS}{a:WE}(v:pd k D q A a)(y:x.T=k):∀(g:Nat) (d:Int) (f:Nat) (F:AL) (e:Nat),OK u (Ca (Pm u) x D q g d f A F e a):=by
 subst y;induction v with
 |keep c b h i r D=>exact λg d f F e=>OO c b h i λp t n s m o j=>by subst j;exact D _ _ _ _ _
 |sig c b r D=>exact λg d f F e=>OP c b λp t n s m o j=>by subst j;exact D _ _ _ _ _
 |cont c b r D=>exact λg d f F e=>OQ c b λp t n s m o j=>by subst j;exact D _ _ _ _ _
 |Wk c b h l i=>exact λg d f F e=>Gr (IE c b h l i)
 |Wd c w b h l i=>exact λg d f F e=>Gr (IF c w b h l i)
end
section
def R3(b:WC)(a:WS)(c:Nat):gi:=ot [dx b "raw" a.k0 (.bytes a.T a.tT),dx b "payload" a.k1 (.ref a.pl),dx b "in_header" a.k2 (.bool false),dx b "start" a.k3 (.int 0 c)] 4
def Tx(d:WC)(a:WS)(g f:Nat)(c:WE):Spec:=
 ⟨wC a.L,70,some a.L,⟨[⟨a.L,R3 d a g,true⟩,⟨a.pl,cm #[] f,false⟩],[],λb _=>[ON d {a with k4:=b 3} c.ih c.s (b 0) c.e (b 1),cp c.bs (cn 3 (cn 4 b)) (b 2)],nn,nn,nn,[],nn⟩,λ_ _=>.ok .next⟩
def IG(d:WC)(f:WS)(c:Nat)(e:cl)(g:WE):U:=λh b i=>let a:=b[0]?.getD default
 Ca d {f with k4:=dN a 4} false ((c:Int)+1) (df (cF a 3)) ((c:Int)+1) (df (cF a 4)) [e] (mm (λ_=>0) 0 (df (l8 b 2 1))) (eJ b 1) g
variable {b:WE}
theorem OS{a:WS}(p:a.T=l)(f:dA l 0 k c)(m:cG k (cE .sig)=false)(n:cG k #[10]=false)(q:pd l false ((c:Int)+1) [k] b):OK u (Tx (Pm u) a e d b):=by
 subst p;have o:cq u (pc a 0 c++[du a.T k (some 0) (some ((c:Int)+1)),vx k (cE .sig) false,du a.T k (some 0) (some ((c:Int)+1)),vx k #[10] false,du a.T k (some 0) (some ((c:Int)+1)),rC [] (λ_=>0) k,IG (Pm u) a c k b]):=⟨λh g i=>cN rfl (by have:=f.big;omega),λh g i=>i9 (decide_eq_true f.lt),λh g i=>fO f.p0 f.find,λh g i=>iD (by simp;omega),de (dB f) (by have:=f.big;omega),λh g i=>hA m,de (dB f) (by have:=f.big;omega),λh g i=>hA n,de (dB f) (by have:=f.big;omega),iz (by simp),λh g i=>OR (x:={a with k4:=dN (g[0]?.getD default) 4}) q rfl _ _ _ _ _,cg⟩
 exact oT Tu [[],[],[],[],[0],[],[0],[],[0],[4],[3,4]] [1,0] (dT [2835,4883,6931,27] λj=>dI (cn 1 (odd (odd (cn 2 (odd (cn 1 (odd (cn 1 (odd (cn 1 (odd (cn 1 (odd (cn 4 (odd (cn 1 (odd (odd j))))))))))))))))))) o
def Uh:Code->Nat
 | .whileLoop _ _ _ a=>a.frame.getD 0
 |_=>0
def Ui(c:WC)(d:cl)(f:WE):U:=λe b g=>let a:=b[0]?.getD default
 Tx c ⟨Uh e,hu (cF a 1),d,df (cF a 0),dN a 0,dN a 1,dN a 2,dN a 3,0⟩ (df (cF a 3)) (eJ b 1) f
def Tz(b:cl)(d:Nat)(a:cl):Spec:=⟨ul 656 [.bytes b d],90,none,UM [] (λ_=>[]) (λ_=>[]),λc _=>uj (.bytes a (c 0))⟩
structure k7(T R:cl)(z:WE):Prop where
 at0:∃line n,dA T 0 line n/\cG line (cE .sig)=false/\cG line #[10]=false/\pd T false ((n:Int)+1) [line] z
 j:s3 z.bs R
theorem OT(d:k7 l k b):OK u (Tz l a k):=by obtain⟨m,n,h,e,f,g⟩:=d.at0;exact oT 0x1000111000100f212012 [[1,0],[0]] [] (cJ [11]) ⟨λi o c=>OS rfl h e f g,jo d.j,cg⟩ (Y:=[Ui (Pm u) l b,hf #[] b.bs k λc=>cn 3 (cn 4 (cH c 0))])
end
section
def TA(j:WC)(c a i f:Nat)(b:gi)(e:Wy cl)(d:AL)(g:cl):Spec:=
 ⟨ul 691 [.ref c],120,none,UM [(c,eu 888 a),(a,b),(i,cp e d f)] (λ_=>[eu 888 a,b,cp e d f]) (λ_=>[]),λh _=>uj (.bytes g (h 0))⟩
variable {f:CM}
theorem OU{z:AL}{y:AL}{b:WE}(i:s3 A k)(j:k7 k l b):OK u (TA (Pm u) c d a e (o9 0 (Pm u) {f with U8:=false,U4:= .ref a} z) A y l):=
 oT 0x10001110001805f2100f0230101 [[1,2,3],[]] [2,1,0] (cJ [4]) ⟨λc h g=>wa i (by decide),λc h g=>OT j,cg⟩ (Y:=[λm h g=>OI (Pm u) c d a e (o9 0 (Pm u) {f with U8:=false,U4:= .ref a} z) A y k,λc h g=>Tz k (tk c 0) l])
def R4(m:WC)(c d n i:Nat)(e:gi)(h:Wy cl)(f:AL)(l:Rd)(o:WA cl)(b k:Nat)(g:Wz)(j:ui):Spec:=
 ⟨ul 301 [.ref c],265,none,⟨pl [(c,eu 888 d),(d,e),(n,cp h f i),(393,ee b),(b,dq g cZ k j)],[],λ_ _=>[eu 888 d,e,cp h f i,ee b,dq g cZ k j],nn,λa _=>pl (zM m l o (a 39) a),nn,[],λa _=>[rX l a]⟩,λa _=>uj (.ref (a 0))⟩
theorem OV{z:AL}{y:AL}{b:Rd}{g h:Nat}{v:Wz}{L:ui}(p:s3 A b.T)(l:d6 u b V)(m:b.ps.length<=3)(n:jk b.fA)(o:∃q r,b.fC.time=some q/\b.fC.zone=some r):OK u (R4 (Pm u) c d a e (o9 0 (Pm u) {f with U8:=false,U4:= .ref a} z) A y b V g h v L):=
 oT 0x140bf0171ff331ff3000330401102339f1307f000140004405011000177341f01339f8097424f1011511f2227805f1215f127805f8100f0890101a [[],[7,8,9],[0,1,10,11]] [4,3,2,1,0,11,10,14,13,12] (dT [13,15,40,48,56,64,72,80,88,96,104,112,120,128,136,144,152,160,168,176,184,21,23,25,27,29,31,33,35,37,39,192,200,208,216,224,232,240,248,22] λk=>dI (odd (cn 4 (odd (cn 13 k))))) ⟨jF,λc j i=>wa p (by decide),λc j i=>zO l m n o,cg⟩ (Y:=[tY (Pm u),λs j i=>OI (Pm u) c d a e (o9 0 (Pm u) {f with U8:=false,U4:= .ref a} z) A y b.T,Tb (Pm u) b V g h v L]) (R:=[.UO 0])
end
def Gs(a:Nat):Env:=xi [54,5] (lq "Commit.check.<locals>.") 684 683 a []
def Uj(c:WC)(f:Wy cl)(b:AL)(d:Nat):Wy WL:=match f with
 |[]=>[]
 |e::a=>[dx c "parent" d (.bytes (nw e a) (b a.length))]
def Uk(a:Wy cl):Nat:=match a with
 |[]=>1
 |_=>2
def OW(e:WC)(c h f i d g:Nat)(a:Wy cl)(b:AL):Spec:=
 ⟨zk [54,5,7] f (Gs d),150,some d,⟨⟨d,ot [dx e "self" h (.ref c)] 1,true⟩::pl [(f,dp i f 0),(i,cp a b g)],[],λj _=>[ot (dx e "self" h (.ref c)::Uj e a b (j 0)) (Uk a),k6 a.length,cp a b g],nn,nn,nn,[],nn⟩,λ_ _=>.ok .next⟩
def xN(b:cl):U:=λa d c=>rI b (tk a 0) (lq "invalid parent sha") (tk a 1)
theorem gF{a:Str}(b:ff k):OK u (rI k c a d):=by obtain⟨⟨g,h,e⟩,f⟩:=b;exact nj e f
theorem II(k:A.length<=3)(b:∀m∈A,ff m):OK u (OW (Pm u) c f e g a d A y):=by
 match A,k with
 |[],_=>exact oT Qw [] [2,1,0] (cJ []) trivial (Y:=[])
 |[j],_=>exact oT 0x1710f110101320121223220013 [[]] [2,1,0] (cJ [0]) ⟨λc i h=>gF (b _ (.head _)),cg⟩ (Y:=[xN j])
 |[j,l],_=>exact oT 0x1f10f510f110101320121223220013 [[],[]] [2,1,0] (cJ [0]) ⟨λc i h=>gF (b _ (.head _)),λc i h=>gF (b _ (.tail _ (.head _))),cg⟩ (Y:=[xN j,xN l])
 |[j,l,n],_=>exact oT 0x1f10ff10f310f110101320121223220013 [[],[],[]] [2,1,0] (cJ [0]) ⟨λc i h=>gF (b _ (.head _)),λc i h=>gF (b _ (.tail _ (.head _))),λc i h=>gF (b _ (.tail _ (.tail _ (.head _)))),cg⟩ (Y:=[xN j,xN l,xN n])
 |_::_::_::_::_,k=>exact absurd k (by simp)
section
def IJ(b a:Nat):Code:=zk [54,5,19] b (Gs a)
structure CK where
 (L c k0 kp:Nat)
 pb:cl
 (pt kl kf ku:Nat)
 (last field us:Wz)
 y:PG
def R5(c:Nat)(b:WC)(a:CK):Wy WL:=match c with
 |0=>[]
 |_=>[dx b "parent" a.kp (.bytes a.pb a.pt)]
def A3(d:Nat)(b:WC)(a:CK):gi:=ot (dx b "self" a.k0 (.ref a.c)::(R5 d b a++[dx b "last" a.kl a.last,dx b "field" a.kf a.field,dx b "_" a.ku a.us])) (match d with|0=>4|_=>5)
def dO(c:CK)(b:dm)(a:AL):CK:={c with last:= .bytes (cE b.kind) (a 0),field:= .bytes (cE b.kind) (a 0),us:= .bytes b.r (a 3),y:=tR c.y (cE b.kind) b.rb b.np b.lp (a 0) (a 1) (a 2) (a 4) (a 5)}
def jq(b:CK):Wy dm->AL->CK
 |[],_=>b
 |d::c,a=>jq (dO b d a) c (cn 7 a)
def Gu(c:Nat)(b:WC)(a:CK):Wy cK:=⟨a.L,A3 c b a,true⟩::vD b a.y
def A4(f:Nat)(c:WC)(b:CK)(e:cl)(d:AL):uk:=[A3 f c {b with last:= .none,field:= .none,us:= .bytes e (d 0)},ey b.y.g b.y.nm b.y.qn,kU c b.y.x b.y.ks,e8 b.y.cc b.y.doc b.y.pm,dq b.y.a cZ b.y.tq b.y.l]
def fv(d:Nat)(u:WB)(a:CK)(c:Wy dm)(e:cl):Spec:=
 ⟨IJ a.y.ga a.L,160,some a.L,⟨Gu d (Pm u) a,[(a.y.g,fe u a.y.x.L)],λb _=>A4 d (Pm u) (jq a c b) e (hg c b),λ_ _=>[.finished],nn,nn,[],nn⟩,λ_ _=>.ok .next⟩
def lM(b:Nat)(a:uk):AL:=λc=>match c with
 |0=>df (cF (a[0]?.getD default) (b+1))
 |1=>df (cF (a[2]?.getD default) 9)
 |2=>hu (cF (a[2]?.getD default) 4)
 |3=>df (cF (a[0]?.getD default) (b+3))
 |4=>df (cF (a[2]?.getD default) 2)
 |_=>df (cF (a[2]?.getD default) 8)
def oA(d e c:Kd)(f:Bool):U:=λa b g=>fh "tuple.__contains__" [.ref (ad a 0),.bytes (cE c) (tk a 1)] [(ad a 0,eE ([.bytes (cE d) (lk b 0 0),.bytes (cE e) (lk b 0 1)]:ui).toArray)] λ_=>.bool f
theorem iK{b c a:Kd}(j:(decide ((cE b).toList=(cE a).toList)||decide ((cE c).toList=(cE a).toList))=D):∀d h f,OK u (oA b c a D d h f):=λd h f=>by
 refine rt (e:=λk=>match k with| .bytes i _=>decide (i.toList=(cE a).toList)|_=>false) (λl g=> ?_) (by simp only[List.any_cons,List.any_nil,Bool.or_false];exact j)
 simp only[List.mem_cons,List.not_mem_nil,or_false]at g;rcases g with rfl|rfl
 ·exact Eqv.bytes rfl
 ·exact Eqv.bytes rfl
def Tv:Nat:=0x13201223310f0f09f1124f1112110015555904f115000110112204f00116662
variable {d0:dm} {us:cl} {b:CK}
theorem Et(n:a<2)(m:∀h g i,OK u (g5 u b.y (cE .UK) d0.rb d0.UP d0.np d0.lp d0.r h g i))(o:∀f,OK u (fv a u (dO {b with last:= .bytes (cE .tree) e,field:= .bytes k c,us:= .bytes us d} (cu d0 .UK) f) Q l)):OK u (fv a u {b with last:= .bytes (cE .tree) e,field:= .bytes k c,us:= .bytes us d} (cu d0 .UK::Q) l):=by
 have j:cq u [g5 u b.y (cE .UK) (cu d0 .UK).rb (cu d0 .UK).UP (cu d0 .UK).np (cu d0 .UK).lp (cu d0 .UK).r,oA .tree .parent .tree true,λh g i=>fv a u (dO ({b with last:= .bytes (cE .tree) e,field:= .bytes k c,us:= .bytes us d}:CK) (cu d0 .UK) (lM a g)) Q l]:=⟨m,iK rfl,λh g i=>o _,cg⟩
 match a,n with
 |0,_=>exact oT Tv [[1,2,3,4],[0],[5,6,7,8,9]] [4,3,2,1,0] (dT [0,2,4,8,10,12,0] λf=>dI (cn 1 (odd (cn 6 (odd f))))) j (G:=[[0],[],[0]]) (I:=[0])
 |1,_=>exact oT Tv [[1,2,3,4],[0],[5,6,7,8,9]] [4,3,2,1,0] (dT [0,2,4,8,10,12,0] λf=>dI (cn 1 (odd (cn 6 (odd f))))) j (G:=[[0],[],[0]]) (I:=[0])
theorem Eu(n:a<2)(m:∀h g i,OK u (g5 u b.y (cE .UK) d0.rb d0.UP d0.np d0.lp d0.r h g i))(o:∀f,OK u (fv a u (dO {b with last:= .bytes (cE .parent) e,field:= .bytes k c,us:= .bytes us d} (cu d0 .UK) f) Q l)):OK u (fv a u {b with last:= .bytes (cE .parent) e,field:= .bytes k c,us:= .bytes us d} (cu d0 .UK::Q) l):=by
 have j:cq u [g5 u b.y (cE .UK) (cu d0 .UK).rb (cu d0 .UK).UP (cu d0 .UK).np (cu d0 .UK).lp (cu d0 .UK).r,oA .tree .parent .parent true,λh g i=>fv a u (dO ({b with last:= .bytes (cE .parent) e,field:= .bytes k c,us:= .bytes us d}:CK) (cu d0 .UK) (lM a g)) Q l]:=⟨m,iK rfl,λh g i=>o _,cg⟩
 match a,n with
 |0,_=>exact oT Tv [[1,2,3,4],[0],[5,6,7,8,9]] [4,3,2,1,0] (dT [0,2,4,8,10,12,0] λf=>dI (cn 1 (odd (cn 6 (odd f))))) j (G:=[[0],[],[0]]) (I:=[0])
 |1,_=>exact oT Tv [[1,2,3,4],[0],[5,6,7,8,9]] [4,3,2,1,0] (dT [0,2,4,8,10,12,0] λf=>dI (cn 1 (odd (cn 6 (odd f))))) j (G:=[[0],[],[0]]) (I:=[0])
def QF:Nat:=0x13201223310f0f09f111ff1112110015555404f115000110112704f00116662
theorem Ew(n:a<2)(m:∀h g i,OK u (g5 u b.y (cE .parent) d0.rb d0.UP d0.np d0.lp d0.r h g i))(o:∀f,OK u (fv a u (dO {b with last:= .bytes (cE .tree) e,field:= .bytes k c,us:= .bytes us d} (cu d0 .parent) f) Q l)):OK u (fv a u {b with last:= .bytes (cE .tree) e,field:= .bytes k c,us:= .bytes us d} (cu d0 .parent::Q) l):=by
 have j:cq u [g5 u b.y (cE .parent) (cu d0 .parent).rb (cu d0 .parent).UP (cu d0 .parent).np (cu d0 .parent).lp (cu d0 .parent).r,oA .parent .tree .tree true,λh g i=>fv a u (dO ({b with last:= .bytes (cE .tree) e,field:= .bytes k c,us:= .bytes us d}:CK) (cu d0 .parent) (lM a g)) Q l]:=⟨m,iK rfl,λh g i=>o _,cg⟩
 match a,n with
 |0,_=>exact oT QF [[1,2,3,4],[0],[5,6,7,8,9]] [4,3,2,1,0] (dT [0,2,4,8,10,12,0] λf=>dI (cn 1 (odd (cn 6 (odd f))))) j (G:=[[0],[],[0]]) (I:=[0])
 |1,_=>exact oT QF [[1,2,3,4],[0],[5,6,7,8,9]] [4,3,2,1,0] (dT [0,2,4,8,10,12,0] λf=>dI (cn 1 (odd (cn 6 (odd f))))) j (G:=[[0],[],[0]]) (I:=[0])
theorem Ex(n:a<2)(m:∀h g i,OK u (g5 u b.y (cE .parent) d0.rb d0.UP d0.np d0.lp d0.r h g i))(o:∀f,OK u (fv a u (dO {b with last:= .bytes (cE .parent) e,field:= .bytes k c,us:= .bytes us d} (cu d0 .parent) f) Q l)):OK u (fv a u {b with last:= .bytes (cE .parent) e,field:= .bytes k c,us:= .bytes us d} (cu d0 .parent::Q) l):=by
 have j:cq u [g5 u b.y (cE .parent) (cu d0 .parent).rb (cu d0 .parent).UP (cu d0 .parent).np (cu d0 .parent).lp (cu d0 .parent).r,oA .parent .tree .parent true,λh g i=>fv a u (dO ({b with last:= .bytes (cE .parent) e,field:= .bytes k c,us:= .bytes us d}:CK) (cu d0 .parent) (lM a g)) Q l]:=⟨m,iK rfl,λh g i=>o _,cg⟩
 match a,n with
 |0,_=>exact oT QF [[1,2,3,4],[0],[5,6,7,8,9]] [4,3,2,1,0] (dT [0,2,4,8,10,12,0] λf=>dI (cn 1 (odd (cn 6 (odd f))))) j (G:=[[0],[],[0]]) (I:=[0])
 |1,_=>exact oT QF [[1,2,3,4],[0],[5,6,7,8,9]] [4,3,2,1,0] (dT [0,2,4,8,10,12,0] λf=>dI (cn 1 (odd (cn 6 (odd f))))) j (G:=[[0],[],[0]]) (I:=[0])
def QG:Nat:=0x13201223310f0f09f1110111112110015555f04f304f00115552
theorem Ey(n:a<2)(m:∀h g i,OK u (g5 u b.y (cE .UL) d0.rb d0.UP d0.np d0.lp d0.r h g i))(o:∀f,OK u (fv a u (dO {b with last:= .bytes (cE .UK) e,field:= .bytes k c,us:= .bytes us d} (cu d0 .UL) f) Q l)):OK u (fv a u {b with last:= .bytes (cE .UK) e,field:= .bytes k c,us:= .bytes us d} (cu d0 .UL::Q) l):=by
 have j:cq u [g5 u b.y (cE .UL) (cu d0 .UL).rb (cu d0 .UL).UP (cu d0 .UL).np (cu d0 .UL).lp (cu d0 .UL).r,λh g i=>fv a u (dO ({b with last:= .bytes (cE .UK) e,field:= .bytes k c,us:= .bytes us d}:CK) (cu d0 .UL) (lM a g)) Q l]:=⟨m,λh g i=>o _,cg⟩
 match a,n with
 |0,_=>exact oT QG [[1,2,3,4],[4,5,6,7,8]] [4,3,2,1,0] (dT [0,2,4,8,10,12,0] λf=>dI (cn 6 (odd f))) j (G:=[[0],[0]]) (I:=[0])
 |1,_=>exact oT QG [[1,2,3,4],[4,5,6,7,8]] [4,3,2,1,0] (dT [0,2,4,8,10,12,0] λf=>dI (cn 6 (odd f))) j (G:=[[0],[0]]) (I:=[0])
theorem Ez(n:a<2)(m:∀h g i,OK u (g5 u b.y (cE .encoding) d0.rb d0.UP d0.np d0.lp d0.r h g i))(o:∀f,OK u (fv a u (dO {b with last:= .bytes (cE .UL) e,field:= .bytes k c,us:= .bytes us d} (cu d0 .encoding) f) Q l)):OK u (fv a u {b with last:= .bytes (cE .UL) e,field:= .bytes k c,us:= .bytes us d} (cu d0 .encoding::Q) l):=by
 have j:cq u [g5 u b.y (cE .encoding) (cu d0 .encoding).rb (cu d0 .encoding).UP (cu d0 .encoding).np (cu d0 .encoding).lp (cu d0 .encoding).r,λh g i=>fv a u (dO ({b with last:= .bytes (cE .UL) e,field:= .bytes k c,us:= .bytes us d}:CK) (cu d0 .encoding) (lM a g)) Q l]:=⟨m,λh g i=>o _,cg⟩
 match a,n with
 |0,_=>exact oT QG [[1,2,3,4],[4,5,6,7,8]] [4,3,2,1,0] (dT [0,2,4,8,10,12,0] λf=>dI (cn 6 (odd f))) j (G:=[[0],[0]]) (I:=[0])
 |1,_=>exact oT QG [[1,2,3,4],[4,5,6,7,8]] [4,3,2,1,0] (dT [0,2,4,8,10,12,0] λf=>dI (cn 6 (odd f))) j (G:=[[0],[0]]) (I:=[0])
def Tw:Nat:=0x13201223310f0f09f1110111112110015555f04f1500115552
theorem EA(m:a<2)(j:∀g f h,OK u (g5 u b.y (cE .sig) d0.rb d0.UP d0.np d0.lp d0.r g f h))(n:∀e,OK u (fv a u (dO {b with last:=v,field:= .bytes k c,us:= .bytes us d} (cu d0 .sig) e) Q l)):OK u (fv a u {b with last:=v,field:= .bytes k c,us:= .bytes us d} (cu d0 .sig::Q) l):=by
 have i:cq u [g5 u b.y (cE .sig) (cu d0 .sig).rb (cu d0 .sig).UP (cu d0 .sig).np (cu d0 .sig).lp (cu d0 .sig).r,λg f h=>fv a u (dO ({b with last:=v,field:= .bytes k c,us:= .bytes us d}:CK) (cu d0 .sig) (lM a f)) Q l]:=⟨j,λg f h=>n _,cg⟩
 match a,m with
 |0,_=>exact oT Tw [[1,2,3,4],[4,5,6,7,8]] [4,3,2,1,0] (dT [0,2,4,8,10,12,0] λe=>dI (cn 6 (odd e))) i (G:=[[0],[0]]) (I:=[0])
 |1,_=>exact oT Tw [[1,2,3,4],[4,5,6,7,8]] [4,3,2,1,0] (dT [0,2,4,8,10,12,0] λe=>dI (cn 6 (odd e))) i (G:=[[0],[0]]) (I:=[0])
theorem EB(m:a<2)(j:∀g f h,OK u (g5 u b.y (cE .tag) d0.rb d0.UP d0.np d0.lp d0.r g f h))(n:∀e,OK u (fv a u (dO {b with last:=v,field:= .bytes k c,us:= .bytes us d} (cu d0 .tag) e) Q l)):OK u (fv a u {b with last:=v,field:= .bytes k c,us:= .bytes us d} (cu d0 .tag::Q) l):=by
 have i:cq u [g5 u b.y (cE .tag) (cu d0 .tag).rb (cu d0 .tag).UP (cu d0 .tag).np (cu d0 .tag).lp (cu d0 .tag).r,λg f h=>fv a u (dO ({b with last:=v,field:= .bytes k c,us:= .bytes us d}:CK) (cu d0 .tag) (lM a f)) Q l]:=⟨j,λg f h=>n _,cg⟩
 match a,m with
 |0,_=>exact oT Tw [[1,2,3,4],[4,5,6,7,8]] [4,3,2,1,0] (dT [0,2,4,8,10,12,0] λe=>dI (cn 6 (odd e))) i (G:=[[0],[0]]) (I:=[0])
 |1,_=>exact oT Tw [[1,2,3,4],[4,5,6,7,8]] [4,3,2,1,0] (dT [0,2,4,8,10,12,0] λe=>dI (cn 6 (odd e))) i (G:=[[0],[0]]) (I:=[0])
theorem EC(m:a<2)(j:∀g f h,OK u (g5 u b.y (cE .rename) d0.rb d0.UP d0.np d0.lp d0.r g f h))(n:∀e,OK u (fv a u (dO {b with last:=v,field:= .bytes k c,us:= .bytes us d} (cu d0 .rename) e) Q l)):OK u (fv a u {b with last:=v,field:= .bytes k c,us:= .bytes us d} (cu d0 .rename::Q) l):=by
 have i:cq u [g5 u b.y (cE .rename) (cu d0 .rename).rb (cu d0 .rename).UP (cu d0 .rename).np (cu d0 .rename).lp (cu d0 .rename).r,λg f h=>fv a u (dO ({b with last:=v,field:= .bytes k c,us:= .bytes us d}:CK) (cu d0 .rename) (lM a f)) Q l]:=⟨j,λg f h=>n _,cg⟩
 match a,m with
 |0,_=>exact oT Tw [[1,2,3,4],[4,5,6,7,8]] [4,3,2,1,0] (dT [0,2,4,8,10,12,0] λe=>dI (cn 6 (odd e))) i (G:=[[0],[0]]) (I:=[0])
 |1,_=>exact oT Tw [[1,2,3,4],[4,5,6,7,8]] [4,3,2,1,0] (dT [0,2,4,8,10,12,0] λe=>dI (cn 6 (odd e))) i (G:=[[0],[0]]) (I:=[0])
end
section
def A5(b:CK)(a:cl)(c:Nat):CK:={b with last:= .none,field:= .none,us:= .bytes a c}
def IK(e:Nat)(b:WC)(a:CK)(c:cl)(d:Nat):Wy cK:=[⟨a.L,A3 e b (A5 a c d),true⟩,⟨a.y.ga,ey a.y.g a.y.nm a.y.qn,false⟩,⟨a.y.x.L,kU b a.y.x a.y.ks,true⟩]
def OX(d:Nat)(u:WB)(a:CK)(b:cl)(c:Nat):Spec:=
 ⟨IJ a.y.ga a.L,160,some a.L,⟨IK d (Pm u) a b c,[(a.y.g,iG u a.y.x.L)],λe _=>[A3 d (Pm u) (A5 a b c),ey a.y.g a.y.nm a.y.qn,kU (Pm u) a.y.x a.y.ks],λ_ _=>[.finished],nn,nn,[],nn⟩,λ_ _=>.ok .next⟩
variable {a:CK}
theorem IL(h:c<2):OK u (OX c u a k d):=by
 match c,h with
 |0,_=>exact oT 0x132012213 [[1,2]] [2,1,0] (cJ []) ⟨λb f e=>tO,cg⟩ (Y:=[λb f e=>hy a.y.ga a.y.g a.y.nm a.y.qn (iG u a.y.x.L) (zc u a.y.x a.y.ks)]) (G:=[[0]]) (I:=[0])
 |1,_=>exact oT 0x132012213 [[1,2]] [2,1,0] (cJ []) ⟨λb f e=>tO,cg⟩ (Y:=[λb f e=>hy a.y.ga a.y.g a.y.nm a.y.qn (iG u a.y.x.L) (zc u a.y.x a.y.ks)]) (G:=[[0]]) (I:=[0])
def JY:Nat:=0x13201223310f0f09f1114f1112110015555f07fa07f00110115552
theorem IM(o:c<2)(j:a.y.x.line= #[10])(h:0<=a.y.x.place)(i:a.y.x.place<=(a.y.x.T.size:Nat))(l:a.y.x.T.extract a.y.x.place.toNat a.y.x.T.size=k)(m:a.y.x.T.size<=1000000):OK u (fv c u a [] k):=by
 have n:cq u [λe b f=>ye a.y.ga a.y.g a.y.nm a.y.qn (fe u a.y.x.L) (iG u a.y.x.L) (CY u a.y.x a.y.ks k) 0,λe b f=>OX c u a k (df (cF (b[0]?.getD default) (c+3)))]:=⟨λe b f=>zj j h i l m,λe b f=>IL o,cg⟩
 clear j h i l m
 match c,o with
 |0,_=>exact oT JY [[1,2],[4,5,6]] [4,3,2,1,0] (dT [2] λd=>dI (cn 6 (odd d))) n (G:=[[0],[0]]) (I:=[0])
 |1,_=>exact oT JY [[1,2],[4,5,6]] [4,3,2,1,0] (dT [2] λd=>dI (cn 6 (odd d))) n (G:=[[0],[0]]) (I:=[0])
end
def kq:Kd->Kd->Bool
 | .parent,.tree=>true
 | .parent,.parent=>true
 | .UK,.tree=>true
 | .UK,.parent=>true
 | .UL,.UK=>true
 | .encoding,.UL=>true
 | .sig,_=>true
 | .tag,_=>true
 | .rename,_=>true
 |_,_=>false
def nM(a e:cl):Wy dm->cl->Int->Kd->Prop
 |[],c,b,_=>c= #[10]/\0<=b/\b<=(a.size:Nat)/\a.extract b.toNat a.size=e/\a.size<=1000000
 |d::f,c,b,g=>eQ c (cE d.kind) d.rb/\er a b (cE d.kind) d.rb d.UP d.np d.lp d.r/\kq d.kind g=true/\nM a e f d.lp ((d.np:Int)+1) d.kind
structure OY(s:CK)(T line:cl)(place:Int)(la:Kd):Prop where
 T:s.y.x.T=T
 line:s.y.x.line=line
 place:s.y.x.place=place
 last:∃t,s.last= .bytes (cE la) t
 field:∃f t,s.field= .bytes f t
 us:∃u t,s.us= .bytes u t
theorem A6{a:CK}{c:Wz}(b:a.last=v)(d:a.field=x)(e:a.us=c):{a with last:=v,field:=x,us:=c}=a:=by obtain⟨f,g,h,k,m,n,j,i,l,last,field,us,o⟩:=a;simp only at b d e;subst b d e;rfl
theorem A7{u:WB}{a:Nat}{l k:cl}(c:a<2):∀(q:Wy dm) (p:CK) (r:cl) (s:Int) (h:Kd),nM l k q r s h->OY p l r s h->OK u (fv a u p q k)
 |[],p,r,s,h,t,b=>by
  obtain⟨v,w,o,x,H⟩:=t;exact IM c (by rw[b.line];exact v) (by rw[b.place];exact w) (by rw[b.place,b.T];exact o) (by rw[b.place,b.T];exact x) (by rw[b.T];exact H)
 |d::q,p,r,s,h,t,b=>by
  obtain⟨v,w,o,x⟩:=t;obtain⟨T,J⟩:=b.last;obtain⟨N,O,I⟩:=b.field;obtain⟨Y,Q,L⟩:=b.us;have g:∀A D C,OK u (g5 u p.y (cE d.kind) d.rb d.UP d.np d.lp d.r A D C):=λA D C=>fT (by rw[b.line];exact v) (by rw[b.T,b.place];exact w)
  have e:∀z,OK u (fv a u (dO p d z) q k):=λz=>A7 c q _ d.lp ((d.np:Int)+1) d.kind x ⟨b.T,rfl,rfl,⟨_,rfl⟩,⟨_,_,rfl⟩,⟨_,_,rfl⟩⟩
  have G:=A6 J I L;obtain⟨M,n,f,j,i,m⟩:=d;rw[<-G]at e|-;cases M with
  |tree=>cases h<;>exact nomatch o
  |parent=>cases h with
   |tree=>exact Ew (d0:=⟨.parent,n,f,j,i,m⟩) c g e
   |parent=>exact Ex (d0:=⟨.parent,n,f,j,i,m⟩) c g e
   |_=>exact nomatch o
  |UK=>cases h with
   |tree=>exact Et (d0:=⟨.UK,n,f,j,i,m⟩) c g e
   |parent=>exact Eu (d0:=⟨.UK,n,f,j,i,m⟩) c g e
   |_=>exact nomatch o
  |UL=>cases h with
   |UK=>exact Ey (d0:=⟨.UL,n,f,j,i,m⟩) c g e
   |_=>exact nomatch o
  |encoding=>cases h with
   |UL=>exact Ez (d0:=⟨.encoding,n,f,j,i,m⟩) c g e
   |_=>exact nomatch o
  |sig=>exact EA (d0:=⟨.sig,n,f,j,i,m⟩) c g e
  |tag=>exact EB (d0:=⟨.tag,n,f,j,i,m⟩) c g e
  |rename=>exact EC (d0:=⟨.rename,n,f,j,i,m⟩) c g e
structure C0 where
 (L c k0 kp:Nat)
 pb:cl
 (pt kl ga g:Nat)
 (nm qn:Wz)
 (L2 lc tc Va:Nat)
 bs:Wy cl
 F:AL
def IP(b:C0)(e:cl)(d:eY)(h:Nat)(i k f:Wz)(l:Nat)(j:ui)(a:AL):CK:=
 ⟨b.L,b.c,b.k0,b.kp,b.pb,b.pt,b.kl,a 2,a 3,.bytes (cE .tree) (a 0),.bytes (cE .tree) (a 0),.bytes d.r (a 1),⟨b.ga,b.g,b.nm,b.qn,Qq b.L2 b.lc e (cE .tree) d.rb d.np d.lp (cn 4 a),HM b.tc (a 15) (a 16) (a 17) (a 18) (a 19) (a 20) (a 21) (a 22) (a 23),h,i,k,f,l,j⟩⟩
def R6(c:Nat)(b:WC)(a:C0):Wy WL:=match c with
 |0=>[]
 |_=>[dx b "parent" a.kp (.bytes a.pb a.pt)]
def OZ(d:Nat)(b:WC)(a:C0):gi:=ot (dx b "self" a.k0 (.ref a.c)::(R6 d b a++[dx b "last" a.kl .none])) (match d with|0=>2|_=>3)
def pf(h:Nat)(b:WC)(a:C0)(c:Nat)(d:Wz)(f:Nat)(e:ui):Wy cK:=[⟨a.L,OZ h b a,true⟩,⟨a.ga,ey a.g a.nm a.qn,false⟩,⟨a.L2,ot [dx b "chunks" a.tc (.ref a.lc)] 1,true⟩,⟨a.lc,cp a.bs a.F a.Va,false⟩,⟨393,ee c,false⟩,⟨c,dq d cZ f e,false⟩]
def R7(j:Nat)(u:WB)(a:C0)(k:cl)(l:eY)(f:Wy dm)(m:cl)(d:Nat)(e:Wz)(i:Nat)(h:ui):Spec:=
 ⟨IJ a.ga a.L,200,some a.L,⟨pf j (Pm u) a d e i h,[(a.g,.fresh (eo a.L2))],λb _=>let c:=A4 j (Pm u) (jq (IP a k l d (kV (b 0)) iF e i h (cn 1 b)) f (cn 26 b)) m (hg f (cn 26 b));[h6 c 0,h6 c 1,h6 c 2,cp a.bs a.F a.Va,ee d,h6 c 4],λ_ _=>[.finished],nn,nn,[],λb _=>[]⟩,λ_ _=>.ok .next⟩
def TC(b:Nat)(a:uk):AL:=λc=>match c with
 |0=>df (cF (a[0]?.getD default) (b+2))
 |1=>df (cF (a[0]?.getD default) (b+3))
 |2=>dN (a[0]?.getD default) (b+2)
 |3=>dN (a[0]?.getD default) (b+3)
 |6=>hu (cF (a[2]?.getD default) 6)
 |9=>df (cF (a[2]?.getD default) 2)
 |10=>df (cF (a[2]?.getD default) 8)
 |11=>df (cF (a[2]?.getD default) 1)
 |12=>df (cF (a[2]?.getD default) 3)
 |13=>hu (cF (a[2]?.getD default) 4)
 |14=>df (cF (a[2]?.getD default) 9)
 |d=>dN (a[2]?.getD default) (d-14)
def O0(u:WB)(a:C0)(c:cl)(b:eY)(e:Nat)(d:Wz)(h:Nat)(f:ui):U:=λi k j=>ye a.ga a.g a.nm a.qn (.fresh (eo a.L2)) (fe u a.L2) (zg u a.L2 a.lc a.tc a.Va e d h f a.bs a.F c b.line (cE .tree) b.rb b.n b.UP b.np b.lp b.r) 0
structure mu(bs:Wy cl)(T:cl)(d:eY):Prop where
 ch:dW bs T
 line:dA T 0 d.line d.n
 sp:cG d.line #[32]=false
 Vr:eQ d.line (cE .tree) d.rb
 row:er T ((d.n:Int)+1) (cE .tree) d.rb d.UP d.np d.lp d.r
def JZ:Nat:=0x13201224310f0f09f111011111211001666305fc04f00116662
theorem IQ{b:C0}{cc:Nat}{a:Wz}{tq:Nat}{l:ui}(n:c<2)(d:mu b.bs k P)(i:nM k m Q P.lp ((P.np:Int)+1) .tree):OK u (R7 c u b k P Q m cc a tq l):=by
 have j:cq u [O0 u b k P cc a tq l,λg e h=>fv c u (IP b k P cc (fdOf (e[3]?.getD default)).doc iF a tq l (TC c e)) Q m]:=⟨λg e h=>pW d.ch d.line d.sp d.Vr d.row,λg e h=>A7 n Q _ P.lp ((P.np:Int)+1) .tree i ⟨rfl,rfl,rfl,⟨_,rfl⟩,⟨_,_,rfl⟩,⟨_,_,rfl⟩⟩,cg⟩
 clear d i
 match c,n with
 |0,_=>exact oT JZ [[1,2,3,4,5],[5,6,7,4,10]] [5,4,3,2,1,0] (dT q4 λf=>dI (cn 6 (odd f))) j (G:=[[0],[0]]) (I:=[0])
 |1,_=>exact oT JZ [[1,2,3,4,5],[5,6,7,4,10]] [5,4,3,2,1,0] (dT q4 λf=>dI (cn 6 (odd f))) j (G:=[[0],[0]]) (I:=[0])
section
theorem qo:∀(e:Wy dm) (b:CK) (c:AL),(jq b e c).y.a=b.y.a/\(jq b e c).y.tq=b.y.tq/\(jq b e c).y.l=b.y.l
 |[],b,c=>⟨rfl,rfl,rfl⟩
 |d::e,b,c=>qo e (dO b d c) (cn 7 c)
def IR(j:Nat)(u:WB)(a:C0)(k:cl)(l:eY)(i:Wy dm)(m:cl)(d:Nat)(c:Wz)(h:Nat)(f:ui):Spec:=
 ⟨IJ a.ga a.L,200,some a.L,⟨pf j (Pm u) a d c h f,[(a.g,.fresh (eo a.L2))],λb _=>let e:=A4 j (Pm u) (jq (IP a k l d (kV (b 0)) iF c h f (cn 1 b)) i (cn 26 b)) m (hg i (cn 26 b));[h6 e 0,h6 e 1,h6 e 2,cp a.bs a.F a.Va,ee d,dq c cZ h f],λ_ _=>[.finished],nn,nn,[],λb _=>[]⟩,λ_ _=>.ok .next⟩
theorem A8{a:C0}(m:e<2)(f:mu a.bs l P)(j:nM l k Q P.lp ((P.np:Int)+1) .tree):OK u (IR e u a l P Q k c v d L):=by
 refine(IQ (u:=u) (cc:=c) (a:=v) (tq:=d) (l:=L) m f j).alt rfl rfl rfl rfl rfl rfl λb n=>⟨b,n,rfl, ?_,rfl,rfl,rfl,rfl⟩
 obtain⟨g,h,i⟩:=qo Q (IP a l P c (kV (b 0)) iF v d L (cn 1 b)) (cn 26 b);show[_,_,_,_,_,_]=[_,_,_,_,_,_];refine cY rfl (cY rfl (cY rfl (cY rfl (cY rfl (cY ?_ rfl)))));show dq _ _ _ _=_;rw[g,h,i];rfl
structure CQ where
 (c d ch lp Va Wl:Nat)
 bs:Wy cl
 (F Fp ks t:AL)
 x:CM
 (T A C:cl)
def IS(a:CQ)(b c:Wz):CM:={a.x with U8:=false,U4:= .ref a.ch,parents:= .ref a.lp,tree:= .bytes a.T (a.t 0),UK:= .bytes a.A (a.t 1),UL:= .bytes a.C (a.t 2),Vq:=b,Vo:=c}
def uO(e:WC)(a:CQ)(j:Wy cl)(h i:Wz)(b:Nat)(f:Wz)(k:Nat)(g:ui):Wy (Nat×gi):=[(a.c,eu 888 a.d),(a.d,o9 0 e (IS a h i) a.ks),(a.ch,cp a.bs a.F a.Va),(a.lp,cp j a.Fp a.Wl),(393,ee b),(b,dq f cZ k g)]
def ED(b:WC)(a:CQ)(j:Wy cl)(h i:Int)(f:Nat)(e:Wz)(k:Nat)(g:ui):Spec:=
 ⟨ul 684 [.ref a.c],240,none,UM (uO b a j (.int h (a.t 3)) (.int i (a.t 4)) f e k g) (λ_=>[eu 888 a.d,o9 0 b (IS a (.int h (a.t 3)) (.int i (a.t 4))) a.ks,cp a.bs a.F a.Va,cp j a.Fp a.Wl,ee f,dq e cZ k g]) (λ_=>[]),λ_ _=>uj .none⟩
def fo(b:WC)(a:CQ)(j:Wy cl)(h i:Wz)(e:Nat)(d:Wz)(k:Nat)(g:ui)(f:AL->Wz):Spec:=F7 (.call (.ref 684) ⟨[.ref a.c],[]⟩) 240 (uO b a j h i e d k g) (.ref 44) f
def O1(c:WC)(a:CQ)(e:Wy cl):U:=λb d f=>OW c a.c (dN (d[0]?.getD default) 0) (hi b) a.lp (Dp b) a.Wl e a.Fp
def oB(a:Int)(b:Nat):Spec:=⟨ul 207 [.int a b],20,none,UM [] (λ_=>[]) (λ_=>[]),λ_ _=>uj .none⟩
def QJ(a:Wy cl):Nat:=match a with
 |[]=>0
 |_=>1
def EE(b:CQ)(h:Nat)(f:cl)(g:Nat)(c:Code)(e:uk)(a:AL):C0:=let d:=e[0]?.getD default
 ⟨Dp c,b.c,dN d 0,dN d 1,f,g,dN d (h+1),hi c,a 1,F5 (a 3),F5 (a 4),a 2,b.ch,a 5,b.Va,b.bs,b.F⟩
def xO(c:WC)(b:CQ)(d:Wy cl):Wy U:=[O1 c b d,λa f e=>rI b.T (tk a 0) (lq "invalid tree sha") (tk a 1)]
def A9(b:CQ):Wy U:=[λa d c=>OL b.A (tk a 0) (lq "invalid author") (tk a 1),λa d c=>OL b.C (tk a 0) (lq "invalid committer") (tk a 1)]
structure Bb(u:WB)(q:CQ)(ps:Wy cl):Prop where
 n3:ps.length<=3
 hx:∀p∈ps,ff p
 T:ff q.T
variable {b:Wy cl}
theorem jI{q:CQ}(d:Bb u q b):∀a e c,OK u (O1 (Pm u) q b a e c):=λa e c=>II d.n3 d.hx
def kr(u:WB)(a:cl)(b:Str):Prop:=∀c d,OK u (OL a c b d)
def xP(u:WB)(a:Int):Prop:=∀b,OK u (oB a b)
def QH:Nat:=0x151ff805f2213f346f11100f12ff12f1e14f01f12ff12ff12ff12ff12f2331bf3113f330466016101f28ff3bff51ff51ff51ff51f751fe12ff13ff15f501f17f5013303207f0140000044050111011111
variable {a:CQ}
theorem IT(h:Bb u a b)(n:kr u a.A (lq "invalid author"))(o:kr u a.C (lq "invalid committer"))(j:xP u q)(m:xP u r)(s:mu a.bs l P)(p:nM l k Q P.lp ((P.np:Int)+1) .tree):OK u (ED (Pm u) a b q r c v d L):=by
 match b,h with
 |[],h=>
  have i:cq u (xO (Pm u) a []++A9 a++[λe g f=>oB q (tk e 0),λe g f=>oB r (tk e 0),λe g f=>qH (Pm u) a.ch,λe g f=>IR 0 u (EE a 0 #[] 0 e g (cH f 0)) l P Q k c v d L]):=⟨jI h,λe g f=>gF h.T,λe g f=>n _ _,λe g f=>o _ _,λe g f=>j _,λe g f=>m _,λe g f=>gv,λe g f=>A8 (by decide) s p,cg⟩
  exact oT QH [[2,0,6],[],[],[],[],[],[],[4,0,1,7,9,10]] [5,4,3,2,1,0] (cJ []) i (G:=[[],[],[],[],[],[],[],[0]])
 |t::b,h=>
  have i:cq u (xO (Pm u) a (t::b)++A9 a++[λe g f=>oB q (tk e 0),λe g f=>oB r (tk e 0),λe g f=>qH (Pm u) a.ch,λe g f=>IR 1 u (EE a 1 (nw t b) (a.Fp b.length) e g (cH f 0)) l P Q k c v d L]):=⟨jI h,λe g f=>gF h.T,λe g f=>n _ _,λe g f=>o _ _,λe g f=>j _,λe g f=>m _,λe g f=>gv,λe g f=>A8 (by decide) s p,cg⟩
  exact oT QH [[2,0,6],[],[],[],[],[],[],[4,0,1,7,9,10]] [5,4,3,2,1,0] (cJ []) i (G:=[[],[],[],[],[],[],[],[0]])
theorem EF:OK u (fo (Pm u) a b .none (.int r (a.t 4)) c v d L (λ_=>.none)):=
 oT 0x151ff805f23a8f33abf100f12ff12f1f4df1f12ff12ff12f2332af3117f3304309f30ff30af02101100f0110101022222022021311 [[]] [5,4,3,2,1,0,9,11] (cJ [14,15,17,0]) ⟨es,cg⟩ (Y:=[hE]) (Z:=g4 [13])
theorem EG(h:Bb u a b)(k:kr u a.A (lq "invalid author"))(l:kr u a.C (lq "invalid committer"))(j:xP u q):OK u (fo (Pm u) a b (.int q (a.t 3)) (.int 9223372036854775808 (a.t 4)) c v d L (λi=>.ref (i 4))):=by
 have m:cq u (xO (Pm u) a b++A9 a++[λe g f=>oB q (tk e 0),λe g f=>SV (tk e 0)]):=⟨jI h,λe g f=>gF h.T,λe g f=>k _ _,λe g f=>l _ _,λe g f=>j _,λe g f=>HS,cg⟩
 exact oT 0x151ff805f2213f346f11100f12ff12f1e14f01f12ff12ff12ff12ff12f2331bf3113f330466016101f28ff3bff51ff51ff51ff51f63bff12ff13ff15f50103207f0140000044050101211 [[2,0,6],[],[],[],[],[]] [5,4,3,2,1,0,10,11] (cJ [165,229,197,0,293]) m (Z:=g4 [181])
theorem EH{q r:Int}{c:Nat}{v:Wz}{d:Nat}{L:ui}(f:Bb u a b):OK u (fo (Pm u) {a with A:=uM} b (.int q (a.t 3)) (.int r (a.t 4)) c v d L (λi=>.ref (i 4))):=by
 have j:cq u (xO (Pm u) {a with A:=uM} b++[λe h g=>OM (tk e 0) (lq "invalid author") (tk e 1)]):=⟨jI (q:={a with A:=uM}) ⟨f.n3,f.hx,f.T⟩,λe h g=>gF f.T,λe h g=>ID,cg⟩
 exact oT 0x151ff805f2213f346f11100f12ff12f1e14f01f12ff12ff12ff12ff12f2331bf3113f330466016101f28ff3bf0501f12ff13f03207f0140000044050101211 [[2,0,6],[],[]] [5,4,3,2,1,0,10,11] (cJ [41,49,45,0,57]) j (Z:=g4 [37])
end
section
def O2(c:CK)(b:dm)(a:AL):CK:={c with field:= .bytes (cE b.kind) (a 0),us:= .bytes b.r (a 3),y:=tR c.y (cE b.kind) b.rb b.np b.lp (a 0) (a 1) (a 2) (a 4) (a 5)}
def Gv(d:CK)(b:Wy dm)(c:dm)(a:AL):CK:=O2 (jq d b a) c (hg b a)
def Gw(b:Nat)(a:AL)(c:SL):Wy cK:=[⟨a 6,Qr (.ref 44) (a 7) (a 8),false⟩,⟨a 8,yr .none b (restOf (c 0)),false⟩]
def Bc(d:Nat)(c:WC)(b:CK):uk:=[A3 d c b,ey b.y.g b.y.nm b.y.qn,nq c b.y.x b.y.ks,e8 b.y.cc b.y.doc b.y.pm,dq b.y.a cZ b.y.tq b.y.l]
def iL(d:Nat)(u:WB)(a:CK)(c:Wy dm)(e:dm):Spec:=
 ⟨IJ a.y.ga a.L,160,some a.L,⟨Gu d (Pm u) a,[(a.y.g,fe u a.y.x.L)],λb _=>Bc d (Pm u) (Gv a c e b),λ_ _=>[fe u a.y.x.L],λb f=>Gw a.L (hg c b) f,nn,[],nn⟩,λb _=>.error (.ref (hg c b 6))⟩
def J0:Nat:=0x13201223310f0f09f111ff1112110015555404f115325f12309f30ff30af02101100f0110101022222022021
def TF:uh:=[0,2,4,8,10,12,19,23,31]
variable {d0:dm} {a:CK}
theorem sm{e:Nat}{k us:cl}{c d:Nat}(j:f<2)(i:∀g l h,OK u (g5 u a.y (cE .parent) d0.rb d0.UP d0.np d0.lp d0.r g l h)):OK u (iL f u {a with last:= .bytes (cE .UK) e,field:= .bytes k c,us:= .bytes us d} [] (cu d0 .parent)):=by
 have b:cq u ([g5 u a.y (cE .parent) (cu d0 .parent).rb (cu d0 .parent).UP (cu d0 .parent).np (cu d0 .parent).lp (cu d0 .parent).r]++[oA .parent .tree .UK false]++[hE]):=⟨i,iK rfl,es,cg⟩
 match f,j with
 |0,_=>exact oT J0 [[1,2,3,4],[0],[]] [4,3,2,1,0,11,13] (cJ TF) b (G:=[[0],[],[]]) (I:=[0]) (Z:=g4 [21])
 |1,_=>exact oT J0 [[1,2,3,4],[0],[]] [4,3,2,1,0,11,13] (cJ TF) b (G:=[[0],[],[]]) (I:=[0]) (Z:=g4 [21])
def TB:Nat:=0x13201223310f0f09f1110111112110015555f04f204f5001409f30ff30af02101100f0110101022222022021
def QK:uh:=[0,2,4,8,10,12,13,15,19]
theorem sn{e:Nat}{k us:cl}{c d:Nat}(j:f<2)(i:∀g l h,OK u (g5 u a.y (cE .encoding) d0.rb d0.UP d0.np d0.lp d0.r g l h)):OK u (iL f u {a with last:= .bytes (cE .UK) e,field:= .bytes k c,us:= .bytes us d} [] (cu d0 .encoding)):=by
 have b:cq u ([g5 u a.y (cE .encoding) (cu d0 .encoding).rb (cu d0 .encoding).UP (cu d0 .encoding).np (cu d0 .encoding).lp (cu d0 .encoding).r]++[]++[hE]):=⟨i,es,cg⟩
 match f,j with
 |0,_=>exact oT TB [[1,2,3,4],[]] [4,3,2,1,0,10,12] (cJ QK) b (G:=[[0],[]]) (I:=[0]) (Z:=g4 [23])
 |1,_=>exact oT TB [[1,2,3,4],[]] [4,3,2,1,0,10,12] (cJ QK) b (G:=[[0],[]]) (I:=[0]) (Z:=g4 [23])
def QI:Nat:=0x13201223310f0f09f1110111112110015555500115309f30ff30af02101100f0110101022222022021
theorem Be{e:Nat}{k us:cl}{c d:Nat}(j:f=0)(h:∀b l g,OK u (g5 u a.y (cE .tree) d0.rb d0.UP d0.np d0.lp d0.r b l g)):OK u (iL f u {a with last:= .bytes (cE .tree) e,field:= .bytes k c,us:= .bytes us d} [] (cu d0 .tree)):=by have i:cq u ([g5 u a.y (cE .tree) (cu d0 .tree).rb (cu d0 .tree).UP (cu d0 .tree).np (cu d0 .tree).lp (cu d0 .tree).r]++[]++[hE]):=⟨h,es,cg⟩;subst j;exact oT QI [[1,2,3,4],[]] [4,3,2,1,0,10,12] (cJ QK) i (G:=[[0],[]]) (I:=[0]) (Z:=g4 [15])
theorem Bf{e:Nat}{k us:cl}{c d:Nat}(j:f=1)(h:∀b l g,OK u (g5 u a.y (cE .tree) d0.rb d0.UP d0.np d0.lp d0.r b l g)):OK u (iL f u {a with last:= .bytes (cE .parent) e,field:= .bytes k c,us:= .bytes us d} [] (cu d0 .tree)):=by have i:cq u ([g5 u a.y (cE .tree) (cu d0 .tree).rb (cu d0 .tree).UP (cu d0 .tree).np (cu d0 .tree).lp (cu d0 .tree).r]++[]++[hE]):=⟨h,es,cg⟩;subst j;exact oT QI [[1,2,3,4],[]] [4,3,2,1,0,10,12] (cJ QK) i (G:=[[0],[]]) (I:=[0]) (Z:=g4 [15])
variable {b:dm} {us:cl}
theorem Bg(j:∀h f i,OK u (g5 u a.y (cE .parent) d0.rb d0.UP d0.np d0.lp d0.r h f i))(m:∀g,OK u (iL 1 u (dO {a with last:= .bytes (cE .tree) e,field:= .bytes k c,us:= .bytes us d} (cu d0 .parent) g) Q b)):OK u (iL 1 u {a with last:= .bytes (cE .tree) e,field:= .bytes k c,us:= .bytes us d} (cu d0 .parent::Q) b):=by
 have l:cq u [g5 u a.y (cE .parent) (cu d0 .parent).rb (cu d0 .parent).UP (cu d0 .parent).np (cu d0 .parent).lp (cu d0 .parent).r,oA .parent .tree .tree true,λh f i=>iL 1 u (dO ({a with last:= .bytes (cE .tree) e,field:= .bytes k c,us:= .bytes us d}:CK) (cu d0 .parent) (lM 1 f)) Q b]:=⟨j,iK rfl,λh f i=>m _,cg⟩
 exact oT QF [[1,2,3,4],[0],[5,6,7,8,9]] [4,3,2,1,0,11,10] (dT [0,2,4,8,10,12,0] λg=>dI (cn 1 (odd (cn 6 (odd g))))) l (G:=[[0],[],[0]]) (I:=[0]) (Z:=g4 [41])
theorem Bh(j:∀h f i,OK u (g5 u a.y (cE .parent) d0.rb d0.UP d0.np d0.lp d0.r h f i))(m:∀g,OK u (iL 1 u (dO {a with last:= .bytes (cE .parent) e,field:= .bytes k c,us:= .bytes us d} (cu d0 .parent) g) Q b)):OK u (iL 1 u {a with last:= .bytes (cE .parent) e,field:= .bytes k c,us:= .bytes us d} (cu d0 .parent::Q) b):=by
 have l:cq u [g5 u a.y (cE .parent) (cu d0 .parent).rb (cu d0 .parent).UP (cu d0 .parent).np (cu d0 .parent).lp (cu d0 .parent).r,oA .parent .tree .parent true,λh f i=>iL 1 u (dO ({a with last:= .bytes (cE .parent) e,field:= .bytes k c,us:= .bytes us d}:CK) (cu d0 .parent) (lM 1 f)) Q b]:=⟨j,iK rfl,λh f i=>m _,cg⟩
 exact oT QF [[1,2,3,4],[0],[5,6,7,8,9]] [4,3,2,1,0,11,10] (dT [0,2,4,8,10,12,0] λg=>dI (cn 1 (odd (cn 6 (odd g))))) l (G:=[[0],[],[0]]) (I:=[0]) (Z:=g4 [41])
theorem Bi(j:∀h f i,OK u (g5 u a.y (cE .UK) d0.rb d0.UP d0.np d0.lp d0.r h f i))(m:∀g,OK u (iL 0 u (dO {a with last:= .bytes (cE .tree) e,field:= .bytes k c,us:= .bytes us d} (cu d0 .UK) g) Q b)):OK u (iL 0 u {a with last:= .bytes (cE .tree) e,field:= .bytes k c,us:= .bytes us d} (cu d0 .UK::Q) b):=by
 have l:cq u [g5 u a.y (cE .UK) (cu d0 .UK).rb (cu d0 .UK).UP (cu d0 .UK).np (cu d0 .UK).lp (cu d0 .UK).r,oA .tree .parent .tree true,λh f i=>iL 0 u (dO ({a with last:= .bytes (cE .tree) e,field:= .bytes k c,us:= .bytes us d}:CK) (cu d0 .UK) (lM 0 f)) Q b]:=⟨j,iK rfl,λh f i=>m _,cg⟩
 exact oT Tv [[1,2,3,4],[0],[5,6,7,8,9]] [4,3,2,1,0,11,10] (dT [0,2,4,8,10,12,0] λg=>dI (cn 1 (odd (cn 6 (odd g))))) l (G:=[[0],[],[0]]) (I:=[0]) (Z:=g4 [39])
theorem Bj(j:∀h f i,OK u (g5 u a.y (cE .UK) d0.rb d0.UP d0.np d0.lp d0.r h f i))(m:∀g,OK u (iL 1 u (dO {a with last:= .bytes (cE .parent) e,field:= .bytes k c,us:= .bytes us d} (cu d0 .UK) g) Q b)):OK u (iL 1 u {a with last:= .bytes (cE .parent) e,field:= .bytes k c,us:= .bytes us d} (cu d0 .UK::Q) b):=by
 have l:cq u [g5 u a.y (cE .UK) (cu d0 .UK).rb (cu d0 .UK).UP (cu d0 .UK).np (cu d0 .UK).lp (cu d0 .UK).r,oA .tree .parent .parent true,λh f i=>iL 1 u (dO ({a with last:= .bytes (cE .parent) e,field:= .bytes k c,us:= .bytes us d}:CK) (cu d0 .UK) (lM 1 f)) Q b]:=⟨j,iK rfl,λh f i=>m _,cg⟩
 exact oT Tv [[1,2,3,4],[0],[5,6,7,8,9]] [4,3,2,1,0,11,10] (dT [0,2,4,8,10,12,0] λg=>dI (cn 1 (odd (cn 6 (odd g))))) l (G:=[[0],[],[0]]) (I:=[0]) (Z:=g4 [39])
end
section
def QL(c:Nat)(a b:Kd):Bool:=match c,a,b with
 |1,.parent,.tree=>true
 |1,.parent,.parent=>true
 |0,.UK,.tree=>true
 |1,.UK,.parent=>true
 |_,_,_=>false
def O3(c:Nat)(a b:Kd):Bool:=match c,a,b with
 |0,.parent,.UK=>true
 |1,.parent,.UK=>true
 |0,.encoding,.UK=>true
 |1,.encoding,.UK=>true
 |0,.tree,.tree=>true
 |1,.tree,.parent=>true
 |_,_,_=>false
def nN(g:Nat)(b:cl)(a:dm):Wy dm->cl->Int->Kd->Prop
 |[],e,f,c=>eQ e (cE a.kind) a.rb/\er b f (cE a.kind) a.rb a.UP a.np a.lp a.r/\O3 g a.kind c=true
 |d::h,e,f,c=>eQ e (cE d.kind) d.rb/\er b f (cE d.kind) d.rb d.UP d.np d.lp d.r/\QL g d.kind c=true/\nN g b a h d.lp ((d.np:Int)+1) d.kind
theorem wb{u:WB}{e:Nat}{k:cl}{c:dm}(b:e<2):∀(p:Wy dm) (m:CK) (t:cl) (v:Int) (n:Kd),nN e k c p t v n->OY m k t v n->OK u (iL e u m p c)
 |[],m,t,v,n,x,a=>by
  obtain⟨z,A,C⟩:=x;obtain⟨Q,G⟩:=a.last;obtain⟨L,N,D⟩:=a.field;obtain⟨T,O,H⟩:=a.us;have g:∀o s q,OK u (g5 u m.y (cE c.kind) c.rb c.UP c.np c.lp c.r o s q):=λo s q=>fT (by rw[a.line];exact z) (by rw[a.T,a.place];exact A)
  have w:=A6 G D H;obtain⟨I,l,f,i,h,j⟩:=c;rw[<-w]
  match e,b,I,n,C with
  |0,b,.parent,.UK,_=>exact sm (d0:=⟨.parent,l,f,i,h,j⟩) b g
  |1,b,.parent,.UK,_=>exact sm (d0:=⟨.parent,l,f,i,h,j⟩) b g
  |0,b,.encoding,.UK,_=>exact sn (d0:=⟨.encoding,l,f,i,h,j⟩) b g
  |1,b,.encoding,.UK,_=>exact sn (d0:=⟨.encoding,l,f,i,h,j⟩) b g
  |0,b,.tree,.tree,_=>exact Be (d0:=⟨.tree,l,f,i,h,j⟩) rfl g
  |1,b,.tree,.parent,_=>exact Bf (d0:=⟨.tree,l,f,i,h,j⟩) rfl g
 |d::p,m,t,v,n,x,a=>by
  obtain⟨z,A,C,M⟩:=x;obtain⟨Q,G⟩:=a.last;obtain⟨L,N,D⟩:=a.field;obtain⟨T,O,H⟩:=a.us;have g:∀o s q,OK u (g5 u m.y (cE d.kind) d.rb d.UP d.np d.lp d.r o s q):=λo s q=>fT (by rw[a.line];exact z) (by rw[a.T,a.place];exact A)
  have r:∀J,OK u (iL e u (dO m d J) p c):=λJ=>wb b p _ d.lp ((d.np:Int)+1) d.kind M ⟨a.T,rfl,rfl,⟨_,rfl⟩,⟨_,_,rfl⟩,⟨_,_,rfl⟩⟩
  have w:=A6 G D H;obtain⟨I,l,f,i,h,j⟩:=d;rw[<-w]at r|-
  match e,b,I,n,C with
  |1,_,.parent,.tree,_=>exact Bg (d0:=⟨.parent,l,f,i,h,j⟩) g r
  |1,_,.parent,.parent,_=>exact Bh (d0:=⟨.parent,l,f,i,h,j⟩) g r
  |0,_,.UK,.tree,_=>exact Bi (d0:=⟨.UK,l,f,i,h,j⟩) g r
  |1,_,.UK,.parent,_=>exact Bj (d0:=⟨.UK,l,f,i,h,j⟩) g r
def gn(l:Nat)(b:WC)(j:C0)(c:cl)(f:eY)(h:Wy dm)(g:dm)(e:Nat)(d:Wz)(k:Nat)(i:ui)(a:AL):uk:=Bc l b (Gv (IP j c f e (kV (a 0)) iF d k i (cn 1 a)) h g (cn 26 a))
def so(j:Nat)(u:WB)(a:C0)(k:cl)(l:eY)(e:Wy dm)(m:dm)(d:Nat)(f:Wz)(i:Nat)(h:ui):Spec:=
 ⟨IJ a.ga a.L,200,some a.L,⟨pf j (Pm u) a d f i h,[(a.g,.fresh (eo a.L2))],λb _=>let c:=gn j (Pm u) a k l e m d f i h b;[h6 c 0,h6 c 1,h6 c 2,cp a.bs a.F a.Va,ee d,h6 c 4],λ_ _=>[fe u a.L2],λb n=>Gw a.L (hg e (cn 26 b)) n,nn,[],λb _=>[]⟩,λb _=>.error (.ref (hg e (cn 26 b) 6))⟩
variable {c:dm} {b:C0}
theorem EI{cc:Nat}{a:Wz}{tq:Nat}{l:ui}(n:e<2)(d:mu b.bs k P)(j:nN e k c Q P.lp ((P.np:Int)+1) .tree):OK u (so e u b k P Q c cc a tq l):=by
 have m:cq u [O0 u b k P cc a tq l,λh f i=>iL e u (IP b k P cc (fdOf (f[3]?.getD default)).doc iF a tq l (TC e f)) Q c]:=⟨λh f i=>pW d.ch d.line d.sp d.Vr d.row,λh f i=>wb n Q _ P.lp ((P.np:Int)+1) .tree j ⟨rfl,rfl,rfl,⟨_,rfl⟩,⟨_,_,rfl⟩,⟨_,_,rfl⟩⟩,cg⟩
 clear d j
 match e,n with
 |0,_=>exact oT JZ [[1,2,3,4,5],[5,6,7,4,10]] [5,4,3,2,1,0,12,11] (dT q4 λg=>dI (cn 6 (odd g))) m (G:=[[0],[0]]) (I:=[0]) (Z:=g4 [27])
 |1,_=>exact oT JZ [[1,2,3,4,5],[5,6,7,4,10]] [5,4,3,2,1,0,12,11] (dT q4 λg=>dI (cn 6 (odd g))) m (G:=[[0],[0]]) (I:=[0]) (Z:=g4 [27])
def nO(i:Nat)(u:WB)(a:C0)(j:cl)(k:eY)(m:Wy dm)(l:dm)(d:Nat)(c:Wz)(h:Nat)(f:ui):Spec:=
 ⟨IJ a.ga a.L,200,some a.L,⟨pf i (Pm u) a d c h f,[(a.g,.fresh (eo a.L2))],λb _=>let e:=gn i (Pm u) a j k m l d c h f (cn 3 b);[h6 e 0,h6 e 1,h6 e 2,cp a.bs a.F a.Va,ee d,dq c cZ h f],λ_ _=>[fe u a.L2],λb n=>[⟨b 0,Qr (.ref 44) (b 1) (b 2),false⟩,⟨b 2,yr .none a.L (restOf (n 0)),false⟩],nn,[],λb _=>[]⟩,λb _=>.error (.ref (b 0))⟩
section
variable {w:WG} {b1 b2:Bool} {z:Nat} {q:C0} {T:cl} {d:eY} {ds:Wy dm} {db:dm} {cc:Nat} {a:Wz} {tq:Nat} {l:ui} (al:AL) (sl:SL)
def O4(ds:Wy dm)(al:AL):AL:=cons (hg ds (cn 26 al) 6) (cons (hg ds (cn 26 al) 7) (cons (hg ds (cn 26 al) 8) al))
theorem R8:(so z u q T d ds db cc a tq l).res al sl=(nO z u q T d ds db cc a tq l).res (O4 ds al) sl:=rfl
theorem R9:(so z u q T d ds db cc a tq l).UM.new al sl=(nO z u q T d ds db cc a tq l).UM.new (O4 ds al) sl:=rfl
theorem Sa:h6 (gn z (Pm u) q T d ds db cc a tq l al) 4=dq a cZ tq l:=by obtain⟨b,c,e⟩:=qo ds (IP q T d cc (kV (al 0)) iF a tq l (cn 1 al)) (cn 26 al);show dq (jq _ ds _).y.a cZ (jq _ ds _).y.tq (jq _ ds _).y.l=_;rw[b,c,e];rfl
theorem Sb:(so z u q T d ds db cc a tq l).UM.post al sl=[h6 (gn z (Pm u) q T d ds db cc a tq l al) 0,h6 (gn z (Pm u) q T d ds db cc a tq l al) 1,h6 (gn z (Pm u) q T d ds db cc a tq l al) 2,cp q.bs q.F q.Va,ee cc,h6 (gn z (Pm u) q T d ds db cc a tq l al) 4]:=rfl
theorem Sc:(nO z u q T d ds db cc a tq l).UM.post al sl=[h6 (gn z (Pm u) q T d ds db cc a tq l (cn 3 al)) 0,h6 (gn z (Pm u) q T d ds db cc a tq l (cn 3 al)) 1,h6 (gn z (Pm u) q T d ds db cc a tq l (cn 3 al)) 2,cp q.bs q.F q.Va,ee cc,dq a cZ tq l]:=rfl
theorem Sd:(so z u q T d ds db cc a tq l).UM.post al sl=(nO z u q T d ds db cc a tq l).UM.post (O4 ds al) sl:=by rw[Sb,Sc,Sa,show cn 3 (O4 ds al)=al from rfl]
end
theorem wc(l:e<2)(i:mu b.bs k P)(j:nN e k c Q P.lp ((P.np:Int)+1) .tree):OK u (nO e u b k P Q c a v f L):=
 ct.alt (EI (u:=u) (cc:=a) (a:=v) (tq:=f) (l:=L) l i j) rfl rfl rfl (show pf e (Pm u) b a v f L=pf e (Pm u) b a v f L from rfl) (show[(b.g,GenState.fresh (eo b.L2))]=[(b.g,GenState.fresh (eo b.L2))]from rfl) (show([]:Wy jz)=[]from rfl) λd h=>⟨O4 Q d,h,R8 d h,Sd d h,(show[fe u b.L2]=[fe u b.L2]from rfl),R9 d h,(show([]:Wy (Nat×WI))=[]from rfl),(show([]:Wy jz)=[]from rfl)⟩
def TD:Nat:=0x151ff805f2213f346f11100f12ff12f1e14f01f12ff12ff12ff12ff12f2331bf3113f330466016101f28ff3bff51ff51ff51ff51f751fe12ff13ff15f501f17f5013303207f01400000440501110200f12201122
theorem qp{b:CQ}{d:Wy cl}(i:Bb u b d)(o:kr u b.A (lq "invalid author"))(p:kr u b.C (lq "invalid committer"))(m:xP u q)(n:xP u r)(s:mu b.bs k P)(j:nN (QJ d) k c Q P.lp ((P.np:Int)+1) .tree):OK u (fo (Pm u) b d (.int q (b.t 3)) (.int r (b.t 4)) a v f L (λ_=>.none)):=by
 match d,i,j with
 |[],i,j=>
  have l:cq u (xO (Pm u) b []++A9 b++[λe h g=>oB q (tk e 0),λe h g=>oB r (tk e 0),λe h g=>qH (Pm u) b.ch,λe h g=>nO 0 u (EE b 0 #[] 0 e h (cH g 0)) k P Q c a v f L]):=⟨jI i,λe h g=>gF i.T,λe h g=>o _ _,λe h g=>p _ _,λe h g=>m _,λe h g=>n _,λe h g=>gv,λe h g=>wc (by decide) s j,cg⟩
  exact oT TD [[2,0,6],[],[],[],[],[],[],[4,0,1,7,9,10]] [5,4,3,2,1,0,12,11] (cJ [389,645,901,0]) l (G:=[[],[],[],[],[],[],[],[0]]) (Z:=g4 [437])
 |w::d,i,j=>
  have l:cq u (xO (Pm u) b (w::d)++A9 b++[λe h g=>oB q (tk e 0),λe h g=>oB r (tk e 0),λe h g=>qH (Pm u) b.ch,λe h g=>nO 1 u (EE b 1 (nw w d) (b.Fp d.length) e h (cH g 0)) k P Q c a v f L]):=⟨jI i,λe h g=>gF i.T,λe h g=>o _ _,λe h g=>p _ _,λe h g=>m _,λe h g=>n _,λe h g=>gv,λe h g=>wc (by decide) s j,cg⟩
  exact oT TD [[2,0,6],[],[],[],[],[],[],[4,0,1,7,9,10]] [5,4,3,2,1,0,12,11] (cJ [389,645,901,0]) l (G:=[[],[],[],[],[],[],[],[0]]) (Z:=g4 [437])
end
def t7:cl:= #[65,32,60,98,62,32,53,32,48,49,48,48]
def Ul(c b a:Nat):gi:=⟨.ref 44,none,.fields #[.ref c,.ref b,.ref a,.ref a,.bool true,.none],#[]⟩
def O5(b:Wz)(a:AL)(c:SL):Wy cK:=[⟨a 0,Ul (a 1) (a 2) (a 5),false⟩,⟨a 2,SU b (a 3) (restOf (c 0)),false⟩]
def Se(c:Code)(d:Nat)(b:Wy (Nat×gi))(e:AL->Wz):Spec:=⟨c,d,none,⟨pl b,[],λ_ _=>b.map (·.2),nn,λa f=>O5 (e a) a f,nn,[],nn⟩,λa _=>.error (.ref (a 0))⟩
def TK(a:Nat):Spec:=Se (.call (.ref 634) ⟨[.bytes t7 a],[]⟩) 60 [] λ_=>.none
theorem O6:OK u (TK d):=
 oT 0x1377f120485f01180ff1c5f110218f113330503f10f09f133af131f017777007317f117707359f23bf101134af211011110300f21159f41103004044110dd0dd00dd209f30ff30af05101100f0110101022210d22077100f2021601722111d11d11d11d305f31120311 [[]] [14,16] (cJ [47,49,51,0,0,36]) ⟨rS,cg⟩ (Y:=[zD]) (Z:=g4 [38])
structure Gx(x:Rd)(sg:WA cl):Prop where
 ch:dW [x.T] x.T
 line:dA x.T 0 x.d.line x.d.n
 sp:cG x.d.line #[32]=false
 Vr:eQ x.d.line (cE .tree) x.d.rb
 row:er x.T ((x.d.n:Int)+1) (cE .tree) x.d.rb x.d.UP x.d.np x.d.lp x.d.r
 hex:ff x.d.r
 VP:gd x.T x.msg x.ds x.d.lp ((x.d.np:Int)+1) true false false false 0
 sum:kY x.ds (h8 x sg) x.A x.C
def IU(c:cl)(b f h a:Nat)(d:Wz)(i:Nat)(g:ui):Spec:=
 Se (.call (.ref 649) ⟨[.ref b],[]⟩) 215 [(b,cp [c] (λ_=>h) f),(393,ee a),(a,dq d cZ i g)] λe=>.ref (e 4)
theorem IV{x:Rd}(b:Gx {x with A:=t7} V):OK u (IU x.T e f g a v c L):=by
 have k:cq u [λh j i=>qH (Pm u) e,λh j i=>tV u (pZ h j (cH i 0) 6 e f g x.T) x.T x.d x.ds x.msg a v c L t7 x.C (h8 {x with A:=t7} V),λh j i=>TK (tk h 0)]:=⟨λh j i=>gv,λh j i=>vE (zm b.ch b.line b.sp b.Vr b.row b.hex b.VP) b.sum,λh j i=>O6,cg⟩
 exact oT 0x1000422f0220700f3044440401110111110088888080101211 [[],[5,0,1,6,7,8,4,3,2],[]] [2,1,0,12,13] (cJ [31,39,35,0,47,71]) k (G:=[[],[0],[]]) (Z:=g4 [54])
def EJ(b:cl)(f a:Nat)(c:Wz)(g:Nat)(e:ui):Spec:=
 Se (.call (.ref 277) ⟨[.ref 888,.bytes b f],[]⟩) 260 [(393,ee a),(a,dq c cZ g e)] λd=>.ref (d 4)
theorem IW(h:∀i f j,OK u (IU k i f j a v c L)):OK u (EJ k d a v c L):=
 oT Gd [[],[2,9,10]] [1,0,12,16] (cJ [39,43,53,0,49,59]) ⟨jF,λe b g=>h _ _ _,cg⟩ (Y:=[tY (Pm u),λe b g=>IU k (ad e 0) (eJ b 0) (lk b 0 0) a v c L]) (Z:=g4 [70])
section
open PySem.Calls PySem.SeqAt
section
variable {P:WJ} {w:WG} {K:Nat->WA gi}
theorem EK{c:Wy (Nat×gi)}{b:Heap}{d:Nat}{a:SL}(s:d7 K (kJ c) Z I)(m:AllBare I.gens)(i:∀h e,I.heap.get? h=some e->b.get? h=some e):eh (kJ c) Z y a I {I with heap:=b,toks:=d}:=by
 refine⟨⟨λh e f _=>.inl (i h e f),λh e f=>⟨e,i h e f,.refl e⟩,rfl,λt w f _=>f⟩,by simp[kJ,pl],λg k=> ?_,rfl,λg k=>by simp[kJ]at k,λn j=>by simp[kJ]at j,by simp[kJ,addrs],λn j=>by simp[kJ]at j,by simp[kJ,eg],λB r=>by simp[kJ]at r,m⟩
 obtain⟨p,q,v⟩:=yE k;have:=(s.pre g.1 p).1;have o:(⟨g.1.addr,g.2,g.1.fr⟩:cK)=g.1:=by rw[q]
 rw[o];unfold cR at this|-;cases l:g.1.fr with
 |false=>rw[l]at this;exact i _ _ this
 |true=>rw[l]at this;obtain⟨a,f⟩:=this;exact⟨a,i _ _ f⟩
theorem IX{l:Nat}{xs:WD (Int×Tok)}{ep:Nat}(h:∀a,a<xs.size->0<=numAt xs a/\numAt xs a<1000)(O:xs.size<=1000000):ct P w K (fh "sum" [.ref l] [(l,cm (intItems xs) ep)] λm=>.int (preSum (numAt xs) xs.size) (m 0)):=by
 intro A R d D J I n i q;have x:=el i (l,cm (intItems xs) ep) (.head _);have v:d.heap.IsList l (intItems xs):=⟨_,x,rfl,ep,rfl⟩;have s:A.handled=none:=D.hd;have z:∀a,a<=xs.size->0<=preSum (numAt xs) a/\preSum (numAt xs) a<=1000*(a:Nat):=λa=>by
  induction a with
  |zero=>intro _;exact⟨Int.le_refl _,Int.le_refl _⟩
  |succ a C=>
   intro f;obtain⟨Q,Y⟩:=C (by omega);obtain⟨o,p⟩:=h a (by omega);simp only[preSum];omega
 refine dY F.plain_sum F.entry_sum ?_;unfold Builtin.«sum»;simp only[List.length_cons,List.length_nil];rw[if_neg (by decide)];refine ci (wpAny_of_eq (show Builtin.Builtins.bindParams "sum" ["start"] 0 {}=pure [none]from rfl) ?_);refine ci (iter_intList v λV b G r y=> ?_)
 subst b;refine ci (wpAny_mkInt ?_);refine ci (cj ?_);simp only[List.forIn_cons,List.forIn_nil];refine ci (ci (ci (wpAny_isInstance (T:= "int") (b:=false) (typeIs_int _ _ _) PySem.sub_int_str ?_)));simp only[Bool.false_eq_true,if_false];refine cj (ci (ci (wpAny_isInstance (T:= "int") (b:=false) (typeIs_int _ _ _) PySem.sub_int_bytes ?_)));simp only[Bool.false_eq_true,if_false];refine cj (ci (ci (wpAny_isInstance (T:= "int") (b:=false) (typeIs_int _ _ _) PySem.sub_int_bytearray ?_)));simp only[Bool.false_eq_true,if_false];refine cj (cj ?_);refine ci (wpAny_newObj_type ?_);have W:=Walks.list (prog:=P) (w:=w) (A:=A.in1) s d.heap.objs.size l y (intItems xs);have j:(intItems xs).size=xs.size:=by simp[intItems]
 refine cj ⟨plainId_quiet F.plain_sum_loop _,codeAny_sum_loop W (numAt xs) (λ_ _=>intItems_at) (λa f=> ?_) _ (λc=>Nat.lt_irrefl _ (r _ c)) _ 0 _ _ 0 rfl (Nat.zero_le _)
  (W.frame _ _ _ G λe _ k b=>Heap.get?_push_of_some _ b) (Heap.get?_push_size _ rfl) λN tk H t=> ?_⟩
 ·rw[j]at f;obtain⟨o,p⟩:=h a f;obtain⟨L,M⟩:=z (a+1) (by omega);unfold InLong;omega
 ·rw[j];refine q (λ_=>H) (λ_=> #[]) _ (EK i n λe k b=> ?_)
  have g:=Heap.lt_size b;refine t e k (λc=> ?_) ?_ (Heap.get?_push_of_some _ (Heap.get?_push_of_some _ b))
  ·rcases t6 c with e1|c
   ·subst e1;exact Nat.lt_irrefl _ g
   ·cases c
  ·intro e1;have:(d.heap.push {cls:=Value.type "list_iterator",data:=Data.fields #[Value.ref l,Value.int 0 0]}).objs.size=d.heap.objs.size+1:=Heap.size_push ..;have e2:e=d.heap.objs.size+1:=e1.trans this;exact Nat.lt_irrefl _ (Nat.lt_of_succ_lt (e2▸g))
theorem qq:entryFor table "list.__eq__" =some Builtin.«list.__eq__»:=entryFor_of_tree (by kernel_rfl)
theorem qr:entryFor table "list.__ne__" =some Builtin.«list.__ne__»:=entryFor_of_tree (by kernel_rfl)
theorem uP:∀(b:Wy cl) (F:AL) (a:Nat) (c:a<(d3 b F).length),(d3 b F)[a]= .bytes (b.getD a #[]) (F a)
 |[],F,a,c=>by simp[d3]at c
 |d::b,F,0,c=>rfl
 |d::b,F,a+1,c=>by
  have:=uP b (cy F) a (by simpa[d3]using c);simpa[d3,cy]using this
def hn(b a:Nat)(c d:ug)(e f:Nat):Spec:=FP "list.__add__" [.ref b,.ref a] [(b,cm c e),(a,cm d f)] (cm (c++d) 0)
theorem nP:entryFor table "list.__add__" =some Builtin.«list.__add__»:=entryFor_of_tree (by kernel_rfl)
theorem mL{a:ug}(o:H.size+a.size<=1000000):ct P w K (hn f c H a d e):=by intro h R g p n m i b j;have l:=el (pre:=[(f,cm H d),(c,cm a e)]) ⟨b.pre,b.nd,b.UR,b.U6,b.UX⟩ (f,cm H d) (.head _);have k:=el (pre:=[(f,cm H d),(c,cm a e)]) ⟨b.pre,b.nd,b.UR,b.U6,b.UX⟩ (c,cm a e) (.tail _ (.head _));refine dY (by decide+kernel) nP ?_;refine list_addW f c H a d e none none #[] #[] (by have:(1000000:Nat)<=sizeLine:=(by decide);omega) P w h R g ⟨l,k, ?_⟩;exact j (λ_=>g.heap.objs.size) (λ_=> #[]) _ (m1 (K:=K) (pre:=[(f,cm H d),(c,cm a e)]) ⟨b.pre,b.nd,b.UR,b.U6,b.UX⟩ i rfl ⟨g.toks,rfl⟩)
end
end
section
open PySem.Calls
def O7(b a:Nat)(e f:ug)(c d:Nat):Spec:=FP "list.__getitem__" [.ref b,.ref a] [(b,cm e c),(a,gB .none (.int 60 d))] (cm f 0)
theorem IY{g:WJ}{h:WG}{f:Nat->WA gi}{b:ug}(o:H.extract 0 (min 60 H.size)=b)(x:H.size<=1000000):ct g h f (O7 e a H b d c):=
 vi (by decide+kernel) F.entry_list_getitem rfl λs j t E _ _ _ _ n q=>by
  have m:j.heap.get? e=some (cm H d):=n (e,cm H d) (.head _);have k:j.heap.get? a=some (gB .none (.int 60 c)):=n (a,gB .none (.int 60 c)) (.tail _ (.head _));have w:j.heap.IsList e H:=⟨_,m,rfl,d,rfl⟩;show wpAny _ _ (Builtin.List.listSubscript? (.ref a)>>=_) _ _ j;refine ci ?_;unfold Builtin.List.listSubscript?;refine ci (wpAny_specialOf (T:= "slice") ⟨_,k,rfl⟩ fX ?_);refine cj ?_;show wpAny _ _ (typeOf (.ref a)>>=_) _ _ j;refine ci (wpAny_typeOf (T:= "slice") ⟨_,k,rfl⟩ ?_);rw[if_neg (by decide+kernel)];show wpAny _ _ (Builtin.List.listSliceParts (.ref a)>>=_) _ _ j;refine ci ?_;unfold Builtin.List.listSliceParts;refine ci (wpAny_field k rfl rfl ?_);refine ci (cj ?_);rw[if_neg (by intro l;cases l)];refine ci (wpAny_field (i:=0) k rfl rfl ?_);refine ci (cj ?_);refine ci (wpAny_field (i:=1) k rfl rfl ?_);refine ci ?_;show wpAny _ _ (if((Value.int 60 c)==Value.none)=true then _ else _) _ _ _;rw[if_neg (by intro l;cases l)];show wpAny _ _ (specialOf (Value.int 60 c) "__index__" >>=_) _ _ _;rw[hY,em];show wpAny _ _ (pure (rawInt 60)) _ _ _;refine cj ?_;refine cj ?_;dsimp only;refine ci (wpAny_listItems m rfl ?_);have p:sliceIndices .none (rawInt 60) .none H.size=pure (eW .none H.size 0,eW (.int 60 0) H.size H.size,1):=iw .none (.int 60 0) H.size;rw[p];refine ci (cj ?_);dsimp only;have r:((sliceRange (eW .none H.size 0) (eW (.int 60 0) H.size H.size) 1).filterMap (H[·]?)).toArray=b:=by
   have e1:eW .none H.size 0=((0:Nat):Int):=rfl;have e2:eW (.int 60 0) H.size H.size=((min 60 H.size:Nat):Int):=by
    show max 0 (min (if(60:Int)<0 then(60:Int)+H.size else 60) (H.size:Int))=_;rw[if_neg (by decide)];omega
   rw[e1,e2,sliceRange_one,pick_run,<-o];apply Array.ext';simp[Array.toList_extract,List.extract_eq_drop_take]
  rw[r];refine ci (wpAny_newObj_type ?_ ?_)
  ·exact cj ⟨_,rfl,q j.toks⟩
  ·show b.size<=sizeLine;have:b.size<=H.size:=by rw[<-o,Array.size_extract];omega
   have v:(1000000:Nat)<=sizeLine:=by decide
   omega
end
section
def EL:PySem.Expr:=tH [60,0] [2,0,1]
def EM(c b d a:Nat):Code:= .compLoop EL 0 (.ref c) (.ref b) (yV EL (lq "_law_state.<locals>.") 922 d a)
def nQ:Wy Int->AL->ui
 |[],_=>[]
 |x::a,F=>.int ((iU x).fmod 997) (F 0)::nQ a (cy F)
def wd:Wy (Int×Nat)->ui
 |[]=>[]
 |a::b=>.int a.1 a.2::wd b
def pg(c:WA Wz):Wy (Int×Nat)->WA Wz
 |[]=>c
 |a::b=>pg (some (.int a.1 a.2)) b
def lN(a:WC)(b:WA Wz)(c:Nat):gi:=match b with
 |none=>fk [] 0
 |some d=>fk [dx a "number" c d] 1
def nR(c:WC)(a b d i h f g:Nat)(l e:ug)(j:WA Wz)(k:Nat):Wy (Nat×gi):=[(a,dp b a h),(b,cm l f),(d,cm e g),(i,lN c j k)]
def Bk(d:WC)(h n e i c m g l:Nat)(b f:ug)(j:Wy (Int×Nat))(k:WA Wz)(o:Nat):Spec:=
 ⟨EM h e i c,40,some c,⟨pl (nR d h n e i m g l b f k o),[],λa _=>[dL "list_iterator" [.none,.int b.size 0],cm b g,cm (f++(⟨nQ (j.map (·.1)) (cn 2 a)⟩:ug)) (a 1),lN d (pg k j) (a 0)],nn,nn,nn,[],nn⟩,λ_ _=>.ok .next⟩
def O8(e:WC)(i n f j d m h l:Nat)(c g:ug)(b:Int×Nat)(k:Wy (Int×Nat))(o:WA Wz)(p:Nat):Spec:=
 ⟨EM i f j d,40,some d,⟨pl (nR e i n f j m h l c g o p),[],λa _=>[dL "list_iterator" [.none,.int c.size 0],cm c h,cm (g.push (.int ((iU b.1).fmod 997) (a 0))++(⟨nQ (k.map (·.1)) (cn 2 (cn 1 a))⟩:ug)) (a 2),lN e (pg (some (.int b.1 b.2)) k) (a 1)],nn,nn,nn,[],nn⟩,λ_ _=>.ok .next⟩
def O9(j:WC)(f g k n i e d:Nat)(h c:ug)(a:Int×Nat)(o:Wy (Int×Nat)):Wy U:=[λl b m=>xf f g e h d (.int a.1 a.2),MY a.1,Cz (iU a.1) 997,CJ c,λl b m=>Bk j f g k n i (e+1) d (eJ b 2) h (c.push (.int ((iU a.1).fmod 997) (df (l8 b 4 1)))) o (some (.int a.1 a.2)) (dN (b[3]?.getD default) 0)]
def Pa(l:WG)(c h e i d b g:Nat)(a f:ug)(j:WA Wz)(k:Nat):JR:=
 (⟨EM c e i d,40,some d,⟨pl (nR l.params c h e i a.size b g a f j k),[],λm _=>[dL "list_iterator" [.none,.int a.size 0],cm a b,cm f g,lN l.params j k],nn,nn,nn,[],nn⟩,λ_ _=>.ok .next⟩,[λn p o=>jM c h a.size a b],[])
def TE:Nat:=0x131011244004011102f201322
theorem uQ{it l acc loc L ep Vc:Nat}{b:ug}{a:Int×Nat}{rs:Wy (Int×Nat)}{st:WA Wz}{t:Nat}(k:H[c]?=some (.int a.1 a.2))(j:b.size<=1000000)
 (m:∀i n o,OK u (Bk (Pm u) it l acc loc L (c+1) ep i H (b.push (.int ((iU a.1).fmod 997) o)) rs (some (.int a.1 a.2)) n)):OK u (O8 (Pm u) it l acc loc L c ep Vc H b a rs st t):=by
 have h:cq u (O9 (Pm u) it l acc loc L c ep H b a rs):=⟨λd f e=>iy k,λd f e=>yG,λd f e=>pH (by decide),λd f e=>lC j,λd f e=>m _ _ _,cg⟩
 cases st with
 |none=>exact oT TE [[0,1],[],[],[2],[0,1,2,3]] [3,2,1,0] (dT [9] λg=>dI (odd (odd (cn 1 (odd (cn 1 (odd g))))))) h
 |some p=>exact oT TE [[0,1],[],[],[2],[0,1,2,3]] [3,2,1,0] (dT [9] λg=>dI (odd (odd (cn 1 (odd (cn 1 (odd g))))))) h
theorem we{u:WB}{it l acc loc L ep:Nat}{H:ug}:∀(d:Wy (Int×Nat)) (a c:Nat) (b:ug) (g:WA Wz) (e:Nat),H.toList.drop a=wd d->a<=H.size->b.size+d.length<=1000000->
  OK u (Bk (Pm u) it l acc loc L a ep c H b d g e)
 |[],a,c,b,g,e,i,s,n=>by
  have t:a=H.size:=by
   have:=congrArg List.length i;simp[wd]at this;omega
  subst t;have j:OK u (Pa (W2 u) it l acc loc L ep c H b g e).1:=by
   exact oT 0x13101121 [[0,1]] [3,2,1,0] (cJ []) ⟨λp w r=>fP (by simp),cg⟩ (Y:=[λp w r=>jM it l H.size H ep])
  refine j.alt rfl rfl rfl rfl rfl rfl λf m=>⟨cons e λ_=>c,m,rfl, ?_,rfl,rfl,rfl,rfl⟩
  show[_,_,_,_]=[_,_,_,_];rw[show(b++(⟨nQ (([]:Wy (Int×Nat)).map (·.1)) (cn 2 (cons e λ_=>c))⟩:ug))=b by simp[nQ]]
  rfl
 |o::d,a,c,b,g,e,i,s,n=>by
  have y:b.size+d.length+1<=1000000:=by simpa[Nat.add_assoc]using n
  have k:H[a]?=some (.int o.1 o.2):=by
   have:=congrArg (·[0]?) i;simpa[List.getElem?_drop,wd]using this
  have v:a<H.size:=by
   rcases Nat.lt_or_ge a H.size with h|h
   ·exact h
   ·rw[Array.getElem?_eq_none h]at k;cases k
  have j:=uQ (u:=u) (it:=it) (l:=l) (acc:=acc) (loc:=loc) (L:=L) (ep:=ep) (Vc:=c) (rs:=d) (st:=g) (t:=e) k (show b.size<=1000000 by omega) λq x z=>we d (a+1) q _ _ x (by
   have:=congrArg (List.drop 1) i;simpa[List.drop_drop,wd]using this) v (by rw[Array.size_push];omega)
  refine j.alt rfl rfl rfl rfl rfl rfl λf m=>⟨cons (f 1) (cons (f 2) (cons (f 0) (cn 3 f))),m,rfl, ?_,rfl,rfl,rfl,rfl⟩
  show[_,_,_,_]=[_,_,_,_];refine cY rfl (cY rfl (cY ?_ (cY rfl rfl)));show cm _ _=cm _ _;rw[gu];rfl
def sq(b:Int×Nat):Wy (Int×Nat)->Int×Nat
 |[]=>b
 |q::a=>sq q a
theorem nS:∀(b:Wy (Int×Nat)) (a:Int×Nat),pg (some (.int a.1 a.2)) b=some (.int (sq a b).1 (sq a b).2)
 |[],a=>rfl
 |q::b,a=>nS b q
def uR(c:WC)(d:Wy (Int×Nat))(e:Nat):gi:=match d with
 |[]=>fk [] 0
 |b::a=>fk [dx c "number" e (.int (sq b a).1 (sq b a).2)] 1
theorem xQ(a:WC)(b:Wy (Int×Nat))(c:Nat):lN a (pg none b) c=uR a b c:=by
 cases b with
 |nil=>rfl
 |cons d e=>
  show lN a (pg (some (.int d.1 d.2)) e) c=_;rw[nS];rfl
def Gy(d:WC)(g k e h c f j:Nat)(b:ug)(i:Wy (Int×Nat)):Spec:=
 ⟨.compStart EL 0 (.ref g) (.ref e) (yV EL (lq "_law_state.<locals>.") 922 h c),44,some c,⟨pl (nR d g k e h 0 f j b #[] none 0),[],λa _=>[dL "list_iterator" [.none,.int b.size 0],cm b f,cm ⟨nQ (i.map (·.1)) (cn 2 a)⟩ (a 1),uR d i (a 0)],nn,nn,nn,[],nn⟩,λ_ _=>.ok .next⟩
def Bl(d:WC)(g k e h c f j:Nat)(b:ug)(i:Wy (Int×Nat)):Spec:=
 ⟨EM g e h c,40,some c,⟨pl (nR d g k e h 0 f j b #[] none 0),[],λa _=>[dL "list_iterator" [.none,.int b.size 0],cm b f,cm ⟨nQ (i.map (·.1)) (cn 2 a)⟩ (a 1),uR d i (a 0)],nn,nn,nn,[],nn⟩,λ_ _=>.ok .next⟩
variable {a:Wy (Int×Nat)} {b:Nat}
theorem wg(k:H.toList=wd a)(j:a.length<=1000000):OK u (Bl (Pm u) g b e h d c f H a):=by
 refine(we (u:=u) (it:=g) (l:=b) (acc:=e) (loc:=h) (L:=d) (ep:=c) a 0 f #[] none 0 (by rw[List.drop_zero];exact k) (Nat.zero_le _) (by simpa using j)).alt rfl rfl rfl rfl rfl rfl λi l=>⟨i,l,rfl, ?_,rfl,rfl,rfl,rfl⟩
 show[_,_,_,_]=[_,_,_,_];rw[Array.empty_append,xQ]
theorem Bm(n:H.toList=wd a)(m:a.length<=1000000):OK u (Gy (Pm u) g b e h d c f H a):=by
 obtain⟨o,b1,b2⟩:=u;cases b2 with
 |true=>exact oT 0x112 [[0,1,2,3]] [3,2,1,0] (dT [] λi=>dI i) ⟨λj l k=>wg n m,cg⟩ (Y:=[λj l k=>Bl (Pm ⟨o,b1,true⟩) g b e h d c f H a])
 |false=>exact oT 0x1111011112 [[0,1,2,3]] [3,2,1,0] (dT [] λi=>dI i) ⟨λj l k=>wg n m,cg⟩ (Y:=[λj l k=>Bl (Pm ⟨o,b1,false⟩) g b e h d c f H a])
def jr:Wy Int->AL->Wy (Int×Tok)
 |[],_=>[]
 |x::a,F=>((iU x).fmod 997,F 0)::jr a (cy F)
def nT:Wy Int->Int
 |[]=>0
 |x::a=>(iU x).fmod 997+nT a
theorem nU:∀(a:Wy Int) (F:AL),(⟨nQ a F⟩:ug)=intItems ⟨jr a F⟩
 |[],F=>by simp[nQ,jr,intItems]
 |x::a,F=>by
  have:=congrArg Array.toList (nU a (cy F));apply Array.ext';simp only[intItems,nQ,jr]at this|-;simp at this|-;exact this
theorem mf:∀(b:Wy Int) (F:AL) (a:Nat),0<=numAt ⟨jr b F⟩ a/\numAt ⟨jr b F⟩ a<1000
 |[],F,a=>by simp[numAt,jr]
 |x::b,F,0=>by
  have c:=Int.emod_nonneg (iU x) (show(997:Int)≠0 by decide);have d:=Int.emod_lt_of_pos (iU x) (show(0:Int)<997 by decide);simp only[numAt,jr];simp;rw[Int.fmod_eq_emod_of_nonneg _ (by decide)];omega
 |x::b,F,a+1=>by
  have:=mf b (cy F) a;simpa[numAt,jr]using this
def sumZ(a:Wy Int)(b:AL):Int:=preSum (numAt ⟨jr a b⟩) a.length
theorem nV:∀(a:Wy Int) (F:AL),(jr a F).length=a.length
 |[],_=>rfl
 |_::a,F=>congrArg (· +1) (nV a (cy F))
theorem k8(a:Nat->Int):∀n,preSum a (n+1)=a 0+preSum (λb=>a (b+1)) n
 |0=>by simp[preSum]
 |n+1=>by
  rw[preSum,k8 a n,preSum,Int.add_assoc]
theorem wh:∀(a:Wy Int) (F:AL),sumZ a F=nT a
 |[],F=>rfl
 |x::a,F=>by
  have b:=wh a (cy F);unfold sumZ at b|-;rw[List.length_cons,k8];show _+_=(iU x).fmod 997+nT a;rw[<-b];congr 1;have:(λc=>numAt ⟨jr (x::a) F⟩ (c+1))=numAt ⟨jr a (cy F)⟩:=by
   funext c;simp[numAt,jr]
  rw[this]
def Pb(b:Wy Int)(d:Wy AL->AL):U:=λa f e=>fh "sum" [.ref (ad a 0)] [(ad a 0,cm ⟨nQ b (d e)⟩ (eJ f 0))] λc=>.int (nT b) (c 0)
theorem EN{b:Wy Int}{a:Wy AL->AL}(h:b.length<=1000000):∀d e c,OK u (Pb b a d e c):=λd e c=>by
 have f:=IX (P:=PW) (w:=W2 u) (K:=KB (W2 u)) (l:=ad d 0) (xs:=⟨jr b (a c)⟩) (ep:=eJ e 0) (λi _=>mf b (a c) i) (by show(jr b _).length<=_;rw[nV];exact h)
 rw[<-nU]at f;refine ct.alt f rfl rfl rfl rfl rfl rfl λg j=>⟨g,j, ?_,rfl,rfl,rfl,rfl,rfl⟩
 show Except.ok (Flow.ret (.int (preSum _ (jr b (a c)).length) _))=_;rw[nV];have:=wh b (a c);unfold sumZ at this;rw[this];rfl
def Pc(c b:Nat)(d f:ug)(e:Int):Spec:=
 ⟨ul 923 [.ref c],70,none,UM [(c,cm d b)] (λ_=>[cm d b]) (λa=>[(a 0,hM (a 1) 0 e (a 2) (a 3) 0),(a 1,cm f 0)]),λa _=>uj (.ref (a 0))⟩
theorem IZ{d:ug}(k:H.toList=wd a)(h:a.length<=1000000)(i:H.size<=1000000)(l:H.extract 0 (min 60 H.size)=d):OK u (Pc b c H d ((nT (a.map (·.1))).fmod 997)):=by
 have j:cq u [λe f g=>O7 b (ad e 1) H d (eJ f 0) (df (ky f 1 1)),λe f g=>Gy (Pm u) (jf e) b (hC e) (hD e) (l9 e) c (eJ f 2) H a,Pb (a.map (·.1)) (λg=>cn 2 (cH g 0)),Cz (nT (a.map (·.1))) 997]:=⟨λe f g=>IY l i,λe f g=>Bm k h,EN (by simpa using h),λe f g=>pH (by decide),cg⟩
 clear k h i l;cases a with
 |nil=>exact oT 0x1000111001033301320034401410100110120120 [[2,0],[2,6,1,0],[1],[]] [0,7,3] (cJ [35,4,5,27]) j
 |cons m a=>exact oT 0x1011af00103330132003440141010011110120120 [[2,0],[2,6,1,0],[1],[]] [0,7,3] (cJ [35,4,5,27]) j
end
section
def Um(b:PySem.Expr):Scope:={Qp b with names:=(Qp b).names.map λa=>match a.2 with
 | .free=>(a.1,.cell)
 |_=>a}
def su(d:PySem.Expr)(c e a:Nat)(b:Wy (Str×Addr)):Env:=⟨Um d,e,3,b,lq "law.<locals>.",none,.ref c,some a,0⟩
def ph:PySem.Expr:=tH [68,2] []
abbrev KK:=Fin 16×Fin 16
def dw(a:KK):cl:=eF a.1 a.2
def ib(a:Int):Nat->Int
 |0=>a
 |n+1=>ib (a+1+1) n
def Pd(a:Wy KK)(b c:Nat):Nat:=match a with
 |[]=>b
 |_=>c
def mM(a:WC)(n:Nat)(b c:Nat):gi:=match n with
 |0=>fk [] 0
 |n+1=>fk [dx a "turn" b (.int (n:Nat) c)] 1
structure SS where
 (cs st sc:Nat)
 fb:Int
 (t2 ep:Nat)
 vs:ug
 Vc:Nat
def SS.oo(a:SS)(b:Int)(c:Nat):gi:=hM a.sc b a.fb c a.t2 a.ep
def lO(h:WC)(c b d e:Nat)(a:SS)(f:Int)(g:Nat):Wy (Nat×gi):=[(c,fS 0 e 1),(b,cm #[] 0),(d,fk [] 0),(a.cs,dP (.ref a.st)),(a.st,a.oo f g),(a.sc,cm a.vs a.Vc)]
def wi(d:WC)(a:Wy KK)(c:SS)(e:Int)(f:Nat)(b:AL):uk:=[fS a.length 0 1,cp (a.map dw) (cn 3 b) a.length,mM d a.length (b 0) (b 1),dP (.ref c.st),c.oo (ib e a.length) (Pd a f (b 2)),cm c.vs c.Vc]
def Bn(c:WC)(e d g b:Nat)(f:Wy KK)(a:SS)(h:Int)(i:Nat):Spec:=
 ⟨.compLoop ph 0 (.ref e) (.ref d) (su ph 974 g b [(lq "state",a.cs)]),110,some b,⟨pl (lO c e d g f.length a h i),[],λj _=>wi c f a h i j,nn,nn,nn,[],nn⟩,λ_ _=>.ok .next⟩
def Pe(c:WC)(e d g b:Nat)(f:Wy KK)(a:SS)(h:Int)(i:Nat):Spec:=
 ⟨.compStart ph 0 (.ref e) (.ref d) (su ph 974 g b [(lq "state",a.cs)]),114,some b,⟨pl (lO c e d g f.length a h i),[],λj _=>wi c f a h i j,nn,nn,nn,[],nn⟩,λ_ _=>.ok .next⟩
def nW(a:SS)(d:Int)(b:KK)(g:Nat):U:=λe c f=>vn a.st a.sc d a.fb b.1 b.2 (lk c 0 1) a.t2 a.ep a.vs a.Vc
def qs(a:SS):Int->Wy KK->Prop
 |_,[]=>True
 |b,c::d=>dD a.vs b a.fb 16=(c.1.val:Nat)/\dD a.vs (b+1) a.fb 16=(c.2.val:Nat)/\qs a (b+1+1) d
structure nX(x:SS):Prop where
 sz:x.vs.size<=2^24
 iv:hB x.vs
variable {a:SS}
theorem ic{b:KK}(f:nX a)(h:0<=q)(i:dD a.vs q a.fb 16=(b.1.val:Nat))(j:dD a.vs (q+1) a.fb 16=(b.2.val:Nat)):∀d g e,OK u (nW a q b c d g e):=λd g e=>na h f.sz f.iv i j
variable {b:Wy KK}
theorem wj(h:nX a)(n:0<=q)(t:qs a q b)(o:b.length<=3):OK u (Bn (Pm u) f e g d b a q c):=by
 match b,t,o with
 |[],_,_=>exact oT q8 [] [5,4,3,2,1,0] (cJ []) trivial (Y:=[])
 |[k],⟨i,j,_⟩,_=>exact oT 0x1519f11113304010121222310100f1001 [[4,5]] [5,4,3,2,1,0] (cJ [1,0,4,2]) ⟨ic h n i j,cg⟩ (Y:=[nW a q k c])
 |[k,p],⟨i,j,l,m,_⟩,_=>exact oT 0x1f19fc19f11113304010121222310100f1001 [[4,5],[4,5]] [5,4,3,2,1,0] (cJ [1,3,11,2,7]) ⟨ic h n i j,ic h (by omega) l m,cg⟩ (Y:=[nW a q k c,nW a (q+1+1) p c])
 |[k,p,v],⟨i,j,l,m,r,s,_⟩,_=>exact oT 0x1f19ff19ff19f300f13304010121222310100f1001 [[4,5],[4,5],[4,5]] [5,4,3,2,1,0] (cJ [1,9,25,2,7,17]) ⟨ic h n i j,ic h (by omega) l m,ic h (by omega) r s,cg⟩ (Y:=[nW a q k c,nW a (q+1+1) p c,nW a (q+1+1+1+1) v c])
 |_::_::_::_::_,_,o=>exact absurd o (by simp)
theorem EO{it acc loc L:Nat}{t1:Nat}(g:nX a)(h:0<=q)(i:qs a q b)(j:b.length<=3):OK u (Pe (Pm u) it acc loc L b a q t1):=by
 obtain⟨k,b1,b2⟩:=u;cases b2 with
 |true=>exact oT 0x112 [[0,1,2,3,4,5]] [5,4,3,2,1,0] (dT [] λc=>dI c) ⟨λd f e=>wj g h i j,cg⟩ (Y:=[λd f e=>Bn (Pm ⟨k,b1,true⟩) it acc loc L b a q t1])
 |false=>exact oT 0x1111011112 [[0,1,2,3,4,5]] [5,4,3,2,1,0] (dT [] λc=>dI c) ⟨λd f e=>wj g h i j,cg⟩ (Y:=[λd f e=>Bn (Pm ⟨k,b1,false⟩) it acc loc L b a q t1])
end
section
def xR:PySem.Expr:=tH [68,6] []
abbrev MM:=Fin 2×Fin 5
def Bo:Wy cl:=[cE .tag,cE .rename]
def Bp:Wy cl:=[#[111,110,101],#[],#[116,119,111,10,114,111,119,115],#[97,10,10,98],#[101,110,100,10]]
def ho(a:MM):dh:=(Bo.getD a.1.val #[],Bp.getD a.2.val #[])
def Pf(a:Wy MM)(b c:Nat):Nat:=match a with
 |[]=>b
 |_=>c
def wk(d:WC)(a:Wy MM)(c:SS)(e:Int)(f:Nat)(b:AL):uk:=[fS a.length 0 1,cm (ei a.length (b 3) (b 4)) a.length,mM d a.length (b 0) (b 1),dP (.ref c.st),c.oo (ib e a.length) (Pf a f (b 2)),cm c.vs c.Vc]
def Bq(e:WC)(g f h d:Nat)(b:Wy MM)(c:SS)(i:Int)(j:Nat):Spec:=
 ⟨.compLoop xR 0 (.ref g) (.ref f) (su xR 974 h d [(lq "state",c.cs)]),60,some d,⟨pl (lO e g f h b.length c i j),[],λa _=>wk e b c i j a,nn,nn,nn,[],λa _=>[⟨ei b.length (a 3) (a 4),b.map ho⟩]⟩,λ_ _=>.ok .next⟩
def Pg(e:WC)(g f h d:Nat)(b:Wy MM)(c:SS)(i:Int)(j:Nat):Spec:=
 ⟨.compStart xR 0 (.ref g) (.ref f) (su xR 974 h d [(lq "state",c.cs)]),64,some d,⟨pl (lO e g f h b.length c i j),[],λa _=>wk e b c i j a,nn,nn,nn,[],λa _=>[⟨ei b.length (a 3) (a 4),b.map ho⟩]⟩,λ_ _=>.ok .next⟩
def mv(a:SS)(e c:Int)(f:Nat):U:=λb d g=>jd a.st a.sc (tk b 1) e a.fb c (f:Nat) (lk d 0 1) a.t2 a.ep a.vs a.Vc
def I0(c:SS)(b:Int)(a:MM):Wy U:=[mv c b 2 a.1.val,vp Bo a.1.val,mv c (b+1) 5 a.2.val,vp Bp a.2.val]
def sv(a:SS):Int->Wy MM->Prop
 |_,[]=>True
 |b,c::d=>dD a.vs b a.fb 2=(c.1.val:Nat)/\dD a.vs (b+1) a.fb 5=(c.2.val:Nat)/\sv a (b+1+1) d
variable {a:SS}
theorem fY(e:nX a)(g:0<=r)(i:q≠0)(h:dD a.vs r a.fb q=(c:Nat)):∀b f d,OK u (mv a r q c b f d):=λb f d=>kN g e.sz e.iv i h
variable {b:Wy MM}
theorem wm(i:nX a)(n:0<=q)(r:sv a q b)(l:b.length<=2):OK u (Bq (Pm u) e d f c b a q g):=by
 match b,r,l with
 |[],_,_=>exact oT q8 [] [5,4,3,2,1,0] (cJ []) trivial (Y:=[]) (R:=[.cells []])
 |[h],⟨j,k,_⟩,_=>exact oT 0x1310500f133005916f00001000070111101120100161666350151555001 [[5,6],[0],[7,8],[0]] [5,4,3,2,1,0] (cJ [1,0,49,53]) ⟨fY i n (by decide) j,he h.1.isLt (by decide),fY i (by omega) (by decide) k,he h.2.isLt (by decide),cg⟩ (Y:=(I0 a q h)) (R:=[.cells [2]])
 |[h,m],⟨j,k,o,p,_⟩,_=>exact oT 0x1310500f133005f3bf0007a3bf61666350151200f577009916f000010000b01111011201001a1aaa390191999001 [[5,6],[0],[7,8],[0],[9,10],[0],[11,12],[0]] [5,4,3,2,1,0] (cJ [1,69,853,53,917]) ⟨fY i n (by decide) j,he h.1.isLt (by decide),fY i (by omega) (by decide) k,he h.2.isLt (by decide),fY i (by omega) (by decide) o,he m.1.isLt (by decide),fY i (by omega) (by decide) p,he m.2.isLt (by decide),cg⟩ (Y:=(I0 a q h++I0 a (q+1+1) m)) (R:=[.cells [6,2]])
 |_::_::_::_,_,l=>exact absurd l (by simp)
theorem EP{it acc loc L:Nat}{t1:Nat}(f:nX a)(g:0<=q)(h:sv a q b)(i:b.length<=2):OK u (Pg (Pm u) it acc loc L b a q t1):=by
 obtain⟨j,b1,b2⟩:=u;cases b2 with
 |true=>exact oT 0x112 [[0,1,2,3,4,5]] [5,4,3,2,1,0] (cJ [0,2,4,6,8]) ⟨λc e d=>wm f g h i,cg⟩ (Y:=[λc e d=>Bq (Pm ⟨j,b1,true⟩) it acc loc L b a q t1]) (R:=[.UO 0])
 |false=>exact oT 0x1111011112 [[0,1,2,3,4,5]] [5,4,3,2,1,0] (cJ [0,2,4,6,8]) ⟨λc e d=>wm f g h i,cg⟩ (Y:=[λc e d=>Bq (Pm ⟨j,b1,false⟩) it acc loc L b a q t1]) (R:=[.UO 0])
def QM:PySem.Expr:=tH [68,9] [0,1]
def Br(d a b c:Nat):ug:=match d with
 |0=> #[]
 |1=> #[.ref a]
 |2=> #[.ref a,.ref b]
 |_=> #[.ref a,.ref b,.ref c]
def xS(c:WC)(e:Wy cl)(b:AL)(f:Nat):gi:=match e with
 |[]=>fk [] 0
 |d::a=>fk [dx c "parent" f (.bytes (nw d a) (b a.length))] 1
def Gz(h:WC)(a d f b e:Nat)(g:Wy cl)(c:AL):Wy (Nat×gi):=[(a,dp b a 0),(b,cp g c e),(d,cm #[] 0),(f,fk [] 0)]
def Bs(d:WC)(f e:Nat)(a:Wy cl)(c:AL)(b:AL):uk:=[dL "list_iterator" [.none,.int a.length 0],cp a c e,cm (Br a.length (b 1) (b 2) (b 3)) a.length,xS d a c (b 0)]
def I1(e:WC)(h f i d j g:Nat)(b:Wy cl)(c:AL):Spec:=
 ⟨.compLoop QM 0 (.ref h) (.ref f) (su QM 974 i d []),40,some d,⟨pl (Gz e h f i j g b c),[],λa _=>Bs e j g b c a,nn,nn,nn,[],λa _=>[⟨Br b.length (a 1) (a 2) (a 3),jP b⟩]⟩,λ_ _=>.ok .next⟩
def Ph(e:WC)(h f i d j g:Nat)(b:Wy cl)(c:AL):Spec:=
 ⟨.compStart QM 0 (.ref h) (.ref f) (su QM 974 i d []),44,some d,⟨pl (Gz e h f i j g b c),[],λa _=>Bs e j g b c a,nn,nn,nn,[],λa _=>[⟨Br b.length (a 1) (a 2) (a 3),jP b⟩]⟩,λ_ _=>.ok .next⟩
theorem Bt{a:Nat}(b:A.length<=3):OK u (I1 (Pm u) e d f c g a A y):=by
 match A,b with
 |[],_=>exact oT 0x131011111211001 [] [3,2,1,0] (cJ []) trivial (Y:=[]) (R:=[.cells []])
 |[h],_=>exact oT 0x1310111112114440014144432012122322001 [] [3,2,1,0] (cJ [0,2]) trivial (Y:=[]) (R:=[.cells [2]])
 |[h,i],_=>exact oT 0x13101111121144400141444320121223225550015155533013133433001 [] [3,2,1,0] (cJ [0,2,5]) trivial (Y:=[]) (R:=[.cells [3,2]])
 |[h,i,j],_=>exact oT 0x1310111112114440234f43201212232255500151555330131334336660016166634014144544001 [] [3,2,1,0] (cJ [0,2,5,8]) trivial (Y:=[]) (R:=[.cells [4,3,2]])
 |_::_::_::_::_,b=>exact absurd b (by simp)
theorem I2{a:Nat}(j:A.length<=3):OK u (Ph (Pm u) e d f c g a A y):=by
 obtain⟨k,b1,b2⟩:=u;cases b2 with
 |true=>exact oT 0x112 [[0,1,2,3]] [3,2,1,0] (cJ [0,2,4,6]) ⟨λb i h=>Bt j,cg⟩ (Y:=[λb i h=>I1 (Pm ⟨k,b1,true⟩) e d f c g a A y]) (R:=[.UO 0])
 |false=>exact oT 0x1111011112 [[0,1,2,3]] [3,2,1,0] (cJ [0,2,4,6]) ⟨λb i h=>Bt j,cg⟩ (Y:=[λb i h=>I1 (Pm ⟨k,b1,false⟩) e d f c g a A y]) (R:=[.UO 0])
end
section
open PySem.Calls
def EQ(b:WA Nat)(c:Nat):Wz:=match b with
 |none=>.none
 |some a=>.int (a:Nat) c
def Pj(b a:Nat)(h i:ug)(e d:WA Nat)(c f g:Nat):Spec:=FP "list.__getitem__" [.ref b,.ref a] [(b,cm h c),(a,gB (EQ e f) (EQ d g))] (cm i 0)
theorem Bu(a:WA Nat)(b:Nat):FQ (EQ a b):=by
 cases a with
 |none=>exact .none
 |some c=>exact .int _ _
theorem ER(c:WA Nat)(d a:Nat):eW (EQ c d) a 0=((min (c.getD 0) a:Nat):Int):=by
 cases c with
 |none=>show(0:Int)=_;simp
 |some b=>
  show max 0 (min (if((b:Nat):Int)<0 then((b:Nat):Int)+a else(b:Nat)) (a:Int))=((min b a:Nat):Int);rw[if_neg (by omega)];omega
theorem ES(c:WA Nat)(d a:Nat):eW (EQ c d) a a=((min (c.getD a) a:Nat):Int):=by
 cases c with
 |none=>show((a:Nat):Int)=((min a a:Nat):Int);omega
 |some b=>
  show max 0 (min (if((b:Nat):Int)<0 then((b:Nat):Int)+a else(b:Nat)) (a:Int))=((min b a:Nat):Int);rw[if_neg (by omega)];omega
theorem I3{k:WJ}{l:WG}{j:Nat->WA gi}{d:ug}{a b:WA Nat}(p:H.extract (a.getD 0) (min (b.getD H.size) H.size)=d)(D:H.size<=1000000):ct k l j (Pj h c H d a b g e f):=
  vi (by decide+kernel) F.entry_list_getitem rfl λz m A E _ _ _ _ r w=>by
    have t:m.heap.get? h=some (cm H g):=r (h,cm H g) (.head _);have o:m.heap.get? c=some (gB (EQ a e) (EQ b f)):=r (c,gB (EQ a e) (EQ b f)) (.tail _ (.head _));have y:d.size<=sizeLine:=by
      have:d.size<=H.size:=by rw[<-p,Array.size_extract];omega
      have C:(1000000:Nat)<=sizeLine:=by decide
      omega
    have q:=iw (Bu a e) (Bu b f) H.size;rw[ER,ES]at q;have x:((sliceRange ((min (a.getD 0) H.size:Nat):Int) ((min (b.getD H.size) H.size:Nat):Int) 1).filterMap (H[·]?)).toArray=d:=by
      rw[sliceRange_one,pick_run,<-p];apply Array.ext';simp only[Array.toList_extract,List.extract_eq_take_drop]
      by_cases s:a.getD 0<=H.size
      · rw[Nat.min_eq_left s]
      · have v:min (a.getD 0) H.size=H.size:=by omega
        rw[v,List.drop_eq_nil_of_le (show H.toList.length<=H.size by simp),List.drop_eq_nil_of_le (show H.toList.length<=a.getD 0 by simp;omega)];simp
    clear p;show wpAny _ _ (Builtin.List.listSubscript? (.ref c)>>=_) _ _ m;refine ci ?_;unfold Builtin.List.listSubscript?;refine ci (wpAny_specialOf (T:= "slice") ⟨_,o,rfl⟩ fX ?_);refine cj ?_;show wpAny _ _ (typeOf (.ref c)>>=_) _ _ m;refine ci (wpAny_typeOf (T:= "slice") ⟨_,o,rfl⟩ ?_);rw[if_neg (by decide+kernel)];show wpAny _ _ (Builtin.List.listSliceParts (.ref c)>>=_) _ _ m;refine ci ?_;unfold Builtin.List.listSliceParts;refine ci (wpAny_field o rfl rfl ?_);refine ci (cj ?_);rw[if_neg (by intro n;cases n)];refine ci (wpAny_field (i:=0) o rfl rfl ?_);rcases a with _|i<;>rcases b with _|G
    all_goals
      first
        |refine ci (cj ?_)
        | (refine ci ?_
           show wpAny _ _ (if((Value.int _ _)==Value.none)=true then _ else _) _ _ _;rw[if_neg (by intro n;cases n)];show wpAny _ _ (specialOf (Value.int _ _) "__index__" >>=_) _ _ _;rw[hY,em];show wpAny _ _ (pure (rawInt _)) _ _ _;refine cj ?_)
      refine ci (wpAny_field (i:=1) o rfl rfl ?_)
      first
        |refine ci (cj ?_)
        | (refine ci ?_
           show wpAny _ _ (if((Value.int _ _)==Value.none)=true then _ else _) _ _ _;rw[if_neg (by intro n;cases n)];show wpAny _ _ (specialOf (Value.int _ _) "__index__" >>=_) _ _ _;rw[hY,em];show wpAny _ _ (pure (rawInt _)) _ _ _;refine cj ?_)
      refine cj ?_;dsimp only;refine ci (wpAny_listItems t rfl ?_);refine ci (wpAny_of_eq q ?_);dsimp only;rw[x];refine ci (wpAny_newObj_type ?_ y);exact cj ⟨_,rfl,w m.toks⟩
end
section
def GA(c:ug):U:=λb a d=>hn (ad b 0) (ad b 1) #[.ref (JS a 0 0)] c (eJ a 0) (eJ a 1)
def jY(c:ug):U:=λb a d=>hn (ad b 0) (ad b 1) c #[.ref (JS a 1 0)] (eJ a 0) (eJ a 1)
def Sf(b:Wz):Nat:=match b with
 | .ref a=>a
 |_=>0
def Bv(b a c:Nat)(d e i:ug)(f g h:Nat):Spec:=FP "list.__add__" [.ref b,.ref a] [(b,cm d f),(a,cm e g),(c,cm i h)] (cm (d++e) 0)
def jZ(c d:ug):U:=λb a e=>Bv (ad b 0) (ad b 1) (Sf (l8 a 4 1)) (c++ #[.ref (JS a 2 0)]) d #[.ref (JS a 2 0)] (eJ a 0) (eJ a 1) (eJ a 2)
variable {b:ug}
theorem Bw{j:WJ}{k:WG}{g:Nat->WA gi}{i:ug}(w:H.size+b.size<=1000000):ct j k g (Bv f a c H b i d e h):=by intro o R m x v t p l q;have n:d7 g (kJ [(f,cm H d),(a,cm b e),(c,cm i h)]) (cC o) m:=⟨l.pre,l.nd,l.UR,l.U6,l.UX⟩;have s:=el n (f,cm H d) (.head _);have r:=el n (a,cm b e) (.tail _ (.head _));refine dY (by decide+kernel) nP ?_;refine list_addW f a H b d e none none #[] #[] (by have:(1000000:Nat)<=sizeLine:=(by decide);omega) j k o R m ⟨s,r, ?_⟩;exact q (λ_=>m.heap.objs.size) (λ_=> #[]) _ (m1 (K:=g) (pre:=[(f,cm H d),(a,cm b e),(c,cm i h)]) n p rfl ⟨m.toks,rfl⟩)
theorem Bx(e:b.size<=1000):∀a d c,OK u (GA b a d c):=λa d c=>mL (by show 1+b.size<=_;omega)
theorem fZ(d:H.size<=1000):∀a c b,OK u (jY H a c b):=λa c b=>mL (by show H.size+1<=_;omega)
theorem f0(e:H.size<=1000)(f:b.size<=1000):∀a d c,OK u (jZ H b a d c):=λa d c=>Bw (by rw[Array.size_append];show H.size+1+_<=_;omega)
def hq(e f:ug)(d c:WA Nat):U:=λb a g=>Pj (ad b 0) (ad b 1) e f d c (eJ a 0) (df (ky a 1 0)) (df (ky a 1 1))
def iS(b:Wy cl)(c:AL):U:=λa e f=>fh "len" [.ref (ad a 0)] [(ad a 0,cp b c (eJ e 0))] λd=>.int (b.length:Nat) (d 0)
def fp(a:ug)(b:Nat):ug:=a.extract 0 (min b a.size)
def e9(a:ug)(b:Nat):ug:=a.extract b (min a.size a.size)
def iZ(n:Nat)(i g e f:Nat)(b:ug)(j:Wy dh)(h:Wy cl)(c:AL)(tk:Nat)(d:Nat->ug)(k:Wy dh)(m:Bool)(l:Wy jz):Spec:=
 ⟨ul 963 [.ref i,.ref g,.int (n:Nat) tk],60,none,⟨pl [(i,cm b e),(g,cp h c f)],[],λ_ _=>[cm b e,cp h c f],nn,λa _=>pl [(a 0,eE #[.ref (a 1),.bool m]),(a 1,cm (d (a 2)) 0)],nn,⟨b,j⟩::l,λa _=>[⟨d (a 2),k⟩]⟩,λa _=>uj (.ref (a 0))⟩
def qI(a:ug)(b c:Nat)(d:Nat):ug:=(fp a b++ #[.ref d])++e9 a c
def lm(a:Wy dh)(b c:Nat)(d:dh):Wy dh:=(a.take b++[d])++a.drop c
def By(b:ug)(a:Wy dh)(c d f:Nat)(e:cl):Wy jz:=[⟨fp b c,a.take c⟩,⟨e9 b d,a.drop d⟩,⟨#[.ref f],[(cE .tree,e)]⟩]
def sx:cl:= #[65,32,60,98,62,32,57,50,50,51,51,55,50,48,51,54,56,53,52,55,55,53,56,48,56,32,43,48,48,48,48]
def sy:cl:= #[65,32,60,60,98,62,32,53,32,43,48,49,48,48]
theorem eM.take{a b:Type}{c:a->b->Prop}:∀(i:Nat) {e:Wy a} {f:Wy b},eM c e f->eM c (e.take i) (f.take i)
 |0,_,_,_=>by simp[eM]
 |i+1,[],[],_=>trivial
 |i+1,_::_,_::_,d=>⟨d.1,eM.take i d.2⟩
 |i+1,[],_::_,d=>d.elim
 |i+1,_::_,[],d=>d.elim
theorem eM.drop{a b:Type}{c:a->b->Prop}:∀(i:Nat) {e:Wy a} {f:Wy b},eM c e f->eM c (e.drop i) (f.drop i)
 |0,_,_,d=>by simpa using d
 |i+1,[],[],_=>trivial
 |i+1,_::_,_::_,d=>by simpa using eM.drop i d.2
 |i+1,[],_::_,d=>d.elim
 |i+1,_::_,[],d=>d.elim
theorem dV.Wq{a:Heap}{H:ug}{c:Wy dh}(d:dV a ⟨H,c⟩)(b:Nat):dV a ⟨Mine.fp H b,c.take b⟩:=by
 have e:(Mine.fp H b).toList=H.toList.take b:=by
  unfold Mine.fp;simp only[Array.toList_extract,List.extract_eq_take_drop,List.drop_zero,Nat.sub_zero]
  by_cases f:b<=H.size
  ·rw[Nat.min_eq_left f]
  ·rw[Nat.min_eq_right (by omega),List.take_of_length_le (by simp),List.take_of_length_le (by simp;omega)]
 unfold dV;rw[e];exact eM.take b d
theorem dV.VU{a:Heap}{H:ug}{c:Wy dh}(d:dV a ⟨H,c⟩)(b:Nat):dV a ⟨Mine.e9 H b,c.drop b⟩:=by
 have e:(Mine.e9 H b).toList=H.toList.drop b:=by
  unfold Mine.e9;simp only[Array.toList_extract,List.extract_eq_take_drop,Nat.min_self];rw[List.take_of_length_le (by simp)]
 unfold dV;rw[e];exact eM.drop b d
theorem eZ(d:A.length<=1000):∀a b c,OK u (iS A y a b c):=λa b c=>by
 have:=ja (P:=PW) (w:=W2 u) (K:=KB (W2 u)) (l:=ad a 0) (xs:=⟨d3 A y⟩) (ep:=eJ b 0) (by show(d3 A y).length<=_;rw[d8];omega);rw[show((⟨d3 A y⟩:ug).size:Int)=(A.length:Nat) by show((d3 A y).length:Int)=_;rw[d8]]at this;exact this
theorem wn{c a:WA Nat}(h:H.extract (c.getD 0) (min (a.getD H.size) H.size)=b)(g:H.size<=1000000):∀d f e,OK u (hq H b c a d f e):=λd f e=>I3 h g
theorem gW(d:H.size<=1000000):∀b e c,OK u (hq H (fp H a) none (some a) b e c):=wn rfl d
theorem f3(d:H.size<=1000000):∀b e c,OK u (hq H (e9 H a) (some a) none b e c):=wn rfl d
theorem Pk(a b:UInt8):(Builtin.Bytes.repeated #[a,b] 20).extract 0 39=⟨(List.replicate 19 [a,b]).flatten++[a]⟩:=by apply Array.ext';simp[Builtin.Bytes.repeated,List.replicate]
theorem Sg(b a:UInt8):(Builtin.Bytes.repeated #[b,a] 20).extract 1 40=⟨(List.replicate 19 [a,b]).flatten++[a]⟩:=by apply Array.ext';simp[Builtin.Bytes.repeated,List.replicate]
theorem Sh(b a:UInt8):(Builtin.Bytes.repeated #[b,a] 20).extract 39 40= #[a]:=by apply Array.ext';simp[Builtin.Bytes.repeated,List.replicate]
theorem Si(a b:UInt8):(Builtin.Bytes.repeated #[a,b] 20).size=40:=by simp[Builtin.Bytes.repeated,List.replicate]
theorem I4(a b:Fin 16):(eF a b).extract 0 39=ij a b:=Pk _ _
theorem Pl(a b:Fin 16):(eF a b).extract 1 40=ij b a:=Sg _ _
theorem Pn(b a:Fin 16):(eF b a).extract 39 40= #[dM a]:=Sh _ _
theorem lQ(a b:Fin 16):(eF a b).size=40:=Si _ _
variable {a:Fin 16}
theorem qt:∀b d c,OK u (du (eF T a) (ij T a) none (some 39) b d c):=de (by rw[lQ];exact I4 T a) (by rw[lQ];decide)
theorem I5:∀b d c,OK u (du (eF T a) (ij a T) (some 1) none b d c):=de (by rw[lQ];exact Pl T a) (by rw[lQ];decide)
theorem Bz:∀b d c,OK u (du (eF T a) #[dM a] (some 39) none b d c):=de (by rw[lQ];exact Pn T a) (by rw[lQ];decide)
theorem nY{c:UInt8}:∀b e d,OK u (je (ij T a) #[c] b e d):=eG (by show 39+1<=_;decide)
theorem iM(d:H[0]?=some (.ref e)):∀a c b,OK u (pI H 0 (.ref e) a c b):=λa c b=>dZ (by decide) (by decide) d
theorem dF{a:Nat}:(fp H a).size=min a H.size:=by unfold fp;rw[Array.size_extract];omega
theorem eK{a:Nat}:(e9 H a).size=H.size-a:=by unfold e9;rw[Array.size_extract];omega
variable {c:Wy dh}
theorem I6{tk:Nat}(a:A.length<=1000)(e:H.size<=1000):OK u (iZ 0 h g d f H c A y tk (λ_=>e9 H 1) (c.drop 1) true [⟨e9 H 1,c.drop 1⟩]):=have b:cq u [iS A y,hq H (e9 H 1) (some 1) none]:=⟨eZ a,f3 (by omega),cg⟩;oT 0x10020ff11000010120111110111033301320 [[2],[2,0]] [1,0,5,4] (cJ [18,16]) b (R:=[.UO 1])
theorem I7{tk:Nat}{b:Fin 16}(k:A.length<=1000)(o:H.size<=1000)(j:H[0]?=some (.ref e)):OK u (iZ 1 h g d f H c A y tk (λl=> #[.ref l]++e9 H 1) ([(cE .tree,ij b a)]++c.drop 1) true [⟨e9 H 1,c.drop 1⟩,⟨#[.ref e],[(cE .tree,eF a b)]⟩]):=by have i:cq u [iS A y,pI H 0 (.ref e),du (eF a b) (ij b a) (some 1) none,hq H (e9 H 1) (some 1) none,GA (e9 H 1)]:=⟨eZ k,iM j,I5,f3 (by omega),Bx (by rw[eK];omega),cg⟩;generalize eF a b=m,ij b a=n at i|-;exact oT 0x10020ff1100001012011303f0111222012101f006f3e8e213e8e20100120040666016231301320 [[2],[1],[0],[5,0],[2,0]] [1,0,9,8] (cJ [152,136,96]) i (R:=[.app (.cells [5]) (.UO 1)])
variable {T:cl}
theorem I8{tk:Nat}(b:A.length<=1000)(j:H.size<=1000)(a:H[0]?=some (.ref e)):OK u (iZ 2 h g d f H c A y tk (qI H (1+A.length+1) (1+A.length+1)) (lm c (1+A.length+1) (1+A.length+1) (cE .parent,T)) false (By H c (1+A.length+1) (1+A.length+1) e T)):=have i:cq u [iS A y,hq H (fp H (1+A.length+1)) none (some (1+A.length+1)),pI H 0 (.ref e),jY (fp H (1+A.length+1)),hq H (e9 H (1+A.length+1)) (some (1+A.length+1)) none,jZ (fp H (1+A.length+1)) (e9 H (1+A.length+1))]:=⟨eZ b,gW (by omega),iM a,fZ (by rw[dF];omega),f3 (by omega),f0 (by rw[dF];omega) (by rw[eK];omega),cg⟩;oT 0x10020ff1100001012011703f0111101103311ff34440142001f006f3e8e313e8e30100313f660110888018231301320 [[2],[2,0],[3],[2,0],[7,0],[2,0,3]] [1,0,11,10] (cJ [284,252,164]) i (R:=[.app (.app (.UO 1) (.cells [6])) (.UO 2)])
variable {a0:Nat}
theorem I9{tk:Nat}(a:A.length<=1000)(e:H.size<=1000):OK u (iZ 3 h g d f H c A y tk (qI H (1+A.length) (1+A.length+1)) (lm c (1+A.length) (1+A.length+1) (cE .UK,xv)) false (By H c (1+A.length) (1+A.length+1) a0 T)):=have b:cq u [iS A y,hq H (fp H (1+A.length)) none (some (1+A.length)),jY (fp H (1+A.length)),hq H (e9 H (1+A.length+1)) (some (1+A.length+1)) none,jZ (fp H (1+A.length)) (e9 H (1+A.length+1))]:=⟨eZ a,gW (by omega),fZ (by rw[dF];omega),f3 (by omega),f0 (by rw[dF];omega) (by rw[eK];omega),cg⟩;oT 0x10020ff1100001012011b03f0111103321cf0313f660110888018231301320 [[2],[2,0],[2,0],[7,0],[2,0,3]] [1,0,11,10] (cJ [90,74,30]) b (R:=[.app (.app (.UO 1) (.cells [6])) (.UO 2)])
theorem Ja{tk:Nat}(a:A.length<=1000)(e:H.size<=1000):OK u (iZ 4 h g d f H c A y tk (qI H (1+A.length+1) (1+A.length+2)) (lm c (1+A.length+1) (1+A.length+2) (cE .UL,sx)) false (By H c (1+A.length+1) (1+A.length+2) a0 T)):=have b:cq u [iS A y,hq H (fp H (1+A.length+1)) none (some (1+A.length+1)),jY (fp H (1+A.length+1)),hq H (e9 H (1+A.length+2)) (some (1+A.length+2)) none,jZ (fp H (1+A.length+1)) (e9 H (1+A.length+2))]:=⟨eZ a,gW (by omega),fZ (by rw[dF];omega),f3 (by omega),f0 (by rw[dF];omega) (by rw[eK];omega),cg⟩;oT 0x10020ff1100001012011f03f0111101103321cf0313f660110888018231301320 [[2],[2,0],[2,0],[7,0],[2,0,3]] [1,0,11,10] (cJ [96,80,36]) b (R:=[.app (.app (.UO 1) (.cells [6])) (.UO 2)])
theorem Jb{tk:Nat}(a:A.length<=1000)(e:H.size<=1000):OK u (iZ 5 h g d f H c A y tk (qI H (1+A.length+1) (1+A.length+1)) (lm c (1+A.length+1) (1+A.length+1) (cE .encoding,#[120])) false (By H c (1+A.length+1) (1+A.length+1) a0 T)):=have b:cq u [iS A y,hq H (fp H (1+A.length+1)) none (some (1+A.length+1)),jY (fp H (1+A.length+1)),hq H (e9 H (1+A.length+1)) (some (1+A.length+1)) none,jZ (fp H (1+A.length+1)) (e9 H (1+A.length+1))]:=⟨eZ a,gW (by omega),fZ (by rw[dF];omega),f3 (by omega),f0 (by rw[dF];omega) (by rw[eK];omega),cg⟩;oT 0x10020ff1100001012119ff03f104f1101103321cf0313f660110888018231301320 [[2],[2,0],[2,0],[7,0],[2,0,3]] [1,0,11,10] (cJ [98,82,38]) b (R:=[.app (.app (.UO 1) (.cells [6])) (.UO 2)])
theorem Jc{tk:Nat}{b:Fin 16}(k:A.length<=1000)(n:H.size<=1000)(j:H[0]?=some (.ref e)):OK u (iZ 6 h g d f H c A y tk (qI H (1) (1)) (lm c (1) (1) (cE .parent,ij a b++ #[103])) true (By H c (1) (1) e (eF a b))):=by have i:cq u [iS A y,hq H (fp H (1)) none (some (1)),pI H 0 (.ref e),du (eF a b) (ij a b) none (some 39),je (ij a b) #[103],jY (fp H (1)),hq H (e9 H (1)) (some (1)) none,jZ (fp H (1)) (e9 H (1))]:=⟨eZ k,gW (by omega),iM j,qt,nY,fZ (by rw[dF];omega),f3 (by omega),f0 (by rw[dF];omega) (by rw[eK];omega),cg⟩;generalize eF a b=l,ij a b=m at i|-;exact oT 0x10020ff1100001144f1f03f503f111033136f34411ef001f006f3e8e313e8e301001201200414014270999019231301320 [[2],[2,0],[3],[0],[],[3,0],[8,0],[2,0,3]] [1,0,12,11] (cJ [642,514,226]) i (R:=[.app (.app (.UO 1) (.cells [6])) (.UO 2)])
theorem Jd{tk:Nat}(a:A.length<=1000)(e:H.size<=1000):OK u (iZ 7 h g d f H c A y tk (qI H (1+A.length) (1+A.length+1)) (lm c (1+A.length) (1+A.length+1) (cE .UK,t7)) true (By H c (1+A.length) (1+A.length+1) a0 T)):=have b:cq u [iS A y,hq H (fp H (1+A.length)) none (some (1+A.length)),jY (fp H (1+A.length)),hq H (e9 H (1+A.length+1)) (some (1+A.length+1)) none,jZ (fp H (1+A.length)) (e9 H (1+A.length+1))]:=⟨eZ a,gW (by omega),fZ (by rw[dF];omega),f3 (by omega),f0 (by rw[dF];omega) (by rw[eK];omega),cg⟩;oT 0x10020ff1100001012011f03f803f0111103321cf0313f660110888018231301320 [[2],[2,0],[2,0],[7,0],[2,0,3]] [1,0,11,10] (cJ [98,82,38]) b (R:=[.app (.app (.UO 1) (.cells [6])) (.UO 2)])
theorem Je{tk:Nat}(a:A.length<=1000)(e:H.size<=1000):OK u (iZ 8 h g d f H c A y tk (qI H (1+A.length) (1+A.length+1)) (lm c (1+A.length) (1+A.length+1) (cE .UK,sy)) false (By H c (1+A.length) (1+A.length+1) a0 T)):=have b:cq u [iS A y,hq H (fp H (1+A.length)) none (some (1+A.length)),jY (fp H (1+A.length)),hq H (e9 H (1+A.length+1)) (some (1+A.length+1)) none,jZ (fp H (1+A.length)) (e9 H (1+A.length+1))]:=⟨eZ a,gW (by omega),fZ (by rw[dF];omega),f3 (by omega),f0 (by rw[dF];omega) (by rw[eK];omega),cg⟩;oT 0x10020ff1100001012011f03fc03f0111103321cf0313f660110888018231301320 [[2],[2,0],[2,0],[7,0],[2,0,3]] [1,0,11,10] (cJ [100,84,40]) b (R:=[.app (.app (.UO 1) (.cells [6])) (.UO 2)])
def uo:Nat:=0x10020ff1100001168f1f03fc03f01111033155f3444014f1af2455121f001f006f3e8e313e8e3010302f12005150152880aaa01a231301320
theorem ET{tk:Nat}{b:Fin 16}(l:A.length<=1000)(q:H.size<=1000)(i:H[0]?=some (.ref e))(k:((#[dM b]:cl).toList==(#[48]:cl).toList)=true):OK u (iZ 9 h g d f H c A y tk (qI H (1+A.length) (1+A.length)) (lm c (1+A.length) (1+A.length) (cE .tree,ij a b++ #[49])) false (By H c (1+A.length) (1+A.length) e (eF a b))):=by
 have j:cq u [iS A y,hq H (fp H (1+A.length)) none (some (1+A.length)),pI H 0 (.ref e),du (eF a b) (ij a b) none (some 39),pI H 0 (.ref e),du (eF a b) #[dM b] (some 39) none,tM #[dM b] #[48] true,je (ij a b) #[49],jY (fp H (1+A.length)),hq H (e9 H (1+A.length)) (some (1+A.length)) none,jZ (fp H (1+A.length)) (e9 H (1+A.length))]:=⟨eZ l,gW (by omega),iM i,qt,iM i,Bz,λo r p=>lB k,nY,fZ (by rw[dF];omega),f3 (by omega),f0 (by rw[dF];omega) (by rw[eK];omega),cg⟩
 generalize eF a b=m,ij a b=n,(#[dM b]:cl)=s at j|-;exact oT uo [[2],[2,0],[3],[0],[4],[0],[],[],[4,0],[9,0],[2,0,3]] [1,0,13,12] (cJ [4036,3012,1220]) j (R:=[.app (.app (.UO 1) (.cells [6])) (.UO 2)])
theorem EU{tk:Nat}{b:Fin 16}(l:A.length<=1000)(q:H.size<=1000)(i:H[0]?=some (.ref e))(k:((#[dM b]:cl).toList==(#[48]:cl).toList)=false):OK u (iZ 9 h g d f H c A y tk (qI H (1+A.length) (1+A.length)) (lm c (1+A.length) (1+A.length) (cE .tree,ij a b++ #[48])) false (By H c (1+A.length) (1+A.length) e (eF a b))):=by
 have j:cq u [iS A y,hq H (fp H (1+A.length)) none (some (1+A.length)),pI H 0 (.ref e),du (eF a b) (ij a b) none (some 39),pI H 0 (.ref e),du (eF a b) #[dM b] (some 39) none,tM #[dM b] #[48] false,je (ij a b) #[48],jY (fp H (1+A.length)),hq H (e9 H (1+A.length)) (some (1+A.length)) none,jZ (fp H (1+A.length)) (e9 H (1+A.length))]:=⟨eZ l,gW (by omega),iM i,qt,iM i,Bz,λo r p=>lB k,nY,fZ (by rw[dF];omega),f3 (by omega),f0 (by rw[dF];omega) (by rw[eK];omega),cg⟩
 generalize eF a b=m,ij a b=n,(#[dM b]:cl)=s at j|-;exact oT uo [[2],[2,0],[3],[0],[4],[0],[],[],[4,0],[9,0],[2,0,3]] [1,0,13,12] (cJ [4036,3012,1220]) j (R:=[.app (.app (.UO 1) (.cells [6])) (.UO 2)])
end
def sA(a:Fin 16):UInt8:=if dM a=48 then 49 else 48
def Po(d:Fin 10)(b:ug)(a c:Nat):ug:=match d with
 |0=>e9 b 1
 |1=> #[.ref c]++e9 b 1
 |2=>qI b (1+a+1) (1+a+1) c
 |3=>qI b (1+a) (1+a+1) c
 |4=>qI b (1+a+1) (1+a+2) c
 |5=>qI b (1+a+1) (1+a+1) c
 |6=>qI b 1 1 c
 |7=>qI b (1+a) (1+a+1) c
 |8=>qI b (1+a) (1+a+1) c
 |9=>qI b (1+a) (1+a) c
def EV(e:Fin 10)(b:Wy dh)(a:Nat)(d c:Fin 16):Wy dh:=match e with
 |0=>b.drop 1
 |1=>[(cE .tree,ij c d)]++b.drop 1
 |2=>lm b (1+a+1) (1+a+1) (cE .parent,eF d c)
 |3=>lm b (1+a) (1+a+1) (cE .UK,xv)
 |4=>lm b (1+a+1) (1+a+2) (cE .UL,sx)
 |5=>lm b (1+a+1) (1+a+1) (cE .encoding,#[120])
 |6=>lm b 1 1 (cE .parent,ij d c++ #[103])
 |7=>lm b (1+a) (1+a+1) (cE .UK,t7)
 |8=>lm b (1+a) (1+a+1) (cE .UK,sy)
 |9=>lm b (1+a) (1+a) (cE .tree,ij d c++ #[sA c])
def BA(a:Fin 10):Bool:=match a with
 |0=>true
 |1=>true
 |6=>true
 |7=>true
 |_=>false
theorem iN{b:Heap}(e:dV b ⟨H,M⟩)(g:H[0]?=some (.ref a))(h:M[0]?=some (cE .tree,k)):∀B∈(⟨H,M⟩:jz)::By H M c d a k,dV b B:=λB f=>by
 simp only[By,List.mem_cons,List.not_mem_nil,or_false]at f;rcases f with rfl|rfl|rfl|rfl
 ·exact e
 ·exact e.Wq c
 ·exact e.VU d
 ·exact e.at g h
theorem Jf{rl pl0 ep U5:Nat}{XS:ug}{R:Wy dh}{ps:Wy cl}{F:AL}{tk:Nat}{a b:Fin 16}(m:Fin 10)(f:ps.length<=1000)(g:XS.size<=1000)(e:R[0]?=some (cE .tree,eF a b)):
  OK u (iZ m.val rl pl0 ep U5 XS R ps F tk (Po m XS ps.length) (EV m R ps.length a b) (BA m) []):=by
 refine ct.member (xs:=XS) (rows:=R) (.head _) λt s=> ?_
 have v:0<R.length:=by
  rcases Nat.eq_zero_or_pos R.length with h|h
  ·rw[List.getElem?_eq_none (by omega)]at e;cases e
  ·exact h
 obtain⟨o,d⟩:∃o,XS[0]?=some o:=⟨XS[0]'(by omega),by simp[show 0<XS.size by omega]⟩;obtain⟨j,rfl⟩:=s 0 o d;have q:∀h:Heap,dV h ⟨XS,R⟩->∀B∈([⟨XS,R⟩,⟨e9 XS 1,R.drop 1⟩]:Wy jz),dV h B:=λh k B l=>by
  simp only[List.mem_cons,List.not_mem_nil,or_false]at l;rcases l with rfl|rfl
  ·exact k
  ·exact k.VU 1
 have r:∀h:Heap,dV h ⟨XS,R⟩->∀B∈([⟨XS,R⟩,⟨e9 XS 1,R.drop 1⟩,⟨#[.ref j],[(cE .tree,eF a b)]⟩]:Wy jz),dV h B:=λh k B l=>by
  simp only[List.mem_cons,List.not_mem_nil,or_false]at l;rcases l with rfl|rfl|rfl
  ·exact k
  ·exact k.VU 1
  ·exact k.at d e
 match m with
 |0=>exact ct.more (I6 f g) λh c=>q h (c _ (.head _))
 |1=>exact ct.more (I7 (a:=a) (b:=b) f g d) λh c=>r h (c _ (.head _))
 |2=>exact ct.more (I8 (T:=eF a b) f g d) λh c=>iN (c _ (.head _)) d e
 |3=>exact ct.more (I9 (a0:=j) (T:=eF a b) f g) λh c=>iN (c _ (.head _)) d e
 |4=>exact ct.more (Ja (a0:=j) (T:=eF a b) f g) λh c=>iN (c _ (.head _)) d e
 |5=>exact ct.more (Jb (a0:=j) (T:=eF a b) f g) λh c=>iN (c _ (.head _)) d e
 |6=>exact ct.more (Jc (a:=a) (b:=b) f g d) λh c=>iN (c _ (.head _)) d e
 |7=>exact ct.more (Jd (a0:=j) (T:=eF a b) f g) λh c=>iN (c _ (.head _)) d e
 |8=>exact ct.more (Je (a0:=j) (T:=eF a b) f g) λh c=>iN (c _ (.head _)) d e
 |9=>
  have p:∀n:Bool,((#[dM b]:cl).toList==(#[48]:cl).toList)=n->sA b=(if n then 49 else 48):=λn i=>by
   unfold sA
   by_cases h:dM b=48
   ·rw[if_pos h];rw[h]at i;rw[<-i];rfl
   ·rw[if_neg h];cases n with
    |false=>rfl
    |true=>simp at i;exact absurd i h
  show OK u (iZ 9 rl pl0 ep U5 XS R ps F tk (qI XS (1+ps.length) (1+ps.length)) (lm R (1+ps.length) (1+ps.length) (cE .tree,ij a b++ #[sA b])) false []);cases i:((#[dM b]:cl).toList==(#[48]:cl).toList)with
  |true=>
   rw[p _ i];exact ct.more (ET (a:=a) (b:=b) f g d i) λh c=>iN (c _ (.head _)) d e
  |false=>
   rw[p _ i];exact ct.more (EU (a:=a) (b:=b) f g d i) λh c=>iN (c _ (.head _)) d e
section
open PySem.Calls PySem.SeqAt
def xU:PySem.Expr->WA (PySem.Expr×CmpOp×PySem.Expr×Pos)
 | .Compare a [b] [d] c=>some (a,b,d,c)
 |_=>none
def BB:CmpOp->WA String
 | .NotEq=>some "list.__ne__"
 | .Eq=>some "list.__eq__"
 |_=>none
section
variable {R:Type} (ih:IH R) (ev:PySem.Expr->Env->Sem Wz) (tt:PySem.Expr->Env->Sem Bool)
def gJ(c:Nat)(a:St)(f:St->WA R):WA R:=match a.UT with
 |d::os=>match cellAt a.led d with
  |some b=>match b.fr,b.obj.cls with
   |false,.type e=>match PySem.W.S.strDecS e "list" with
    | .isTrue _=>f ⟨a.led,a.gl,a.al,a.sl,os,a.use,a.UN,a.bl,.n b.addr c::a.lg⟩
    | .isFalse _=>none
   |_,_=>none
  |none=>none
 |[]=>none
def uS(d:Nat)(e:Cx)(f:String)(b c:Nat)(a:St)(j:Bool->St->WA R):WA R:=match d with
 |0=>none
 |d+1=>f9 d e (.call (.builtin f) ⟨[.ref b,.ref c],[]⟩) a a.UT λi g=>match i with
  | .ok (.ret (.bool h))=>j h g
  |_=>none
def xV(b:Nat)(a:Cx)(f:PySem.Expr)(g:CmpOp)(h:PySem.Expr)(e:Env)(i:St)(p:Bool->St->WA R):WA R:=match BB g with
 |some id=>ih.t b a (ev f e) i λn j=>match n with
  | .ok (.ref c)=>ih.t b a (ev h e) j λo k=>match o with
   | .ok (.ref d)=>gJ c k λl=>gJ d l λm=>uS b a id c d m p
   |_=>none
  |_=>none
 |none=>none
def j0(e:Nat)(d:Cx)(f:PySem.Expr)(g:Env)(c:St)(i:Bool->St->WA R):WA R:=match c.UT with
 |0::b=>ih.t e d (tt f g) {c with UT:=b} λa l=>match a with
  | .ok j=>i j l
  | .error _=>none
 |1::b=>match xU f with
  |some (k,h,a,_)=>match lastMarks [h] [a]with
   |false=>xV ih ev e d k h a g {c with UT:=b} i
   |true=>none
  |none=>none
 |_=>none
def EW(c:Nat)(b:Cx)(d:Env):Wy PySem.Expr->St->(St->WA R)->WA R
 |[],st,a=>a st
 |e::g,st,a=>j0 ih ev tt c b e d st λf h=>match f with
  |false=>EW c b d g h a
  |true=>none
def jt(f:Nat)(e:Cx)(g:PySem.Expr)(h:Env)(c:St)(j:Wz->St->WA R):WA R:=match c.UT with
 |0::b=>ih.t f e (ev g h) {c with UT:=b} λa d=>match a with
  | .ok m=>j m d
  | .error _=>none
 |1::b=>match xU g with
  |some (l,i,a,_)=>match lastMarks [i] [a]with
   |false=>xV ih ev f e l i a h {c with UT:=b} λk d=>j (.bool k) d
   |true=>none
  |none=>none
 |_=>none
def uT(b:Nat)(a:Cx)(c:Env):Wy PySem.Expr->St->(Wz->St->WA R)->WA R
 |[],_,_=>none
 |[e],st,d=>jt ih ev b a e c st d
 |e::e2::f,st,d=>jt ih ev b a e c st λh g=>match h with
  | .bool true=>uT b a c (e2::f) g d
  |_=>none
end
section
variable {R0:Type} {K:Nat->WA gi} {X:gj} {G:Setting}
variable {b:R0×St}
theorem jJ{c:St->WA (R0×St)}(e:fK c)(d:gJ a N c=some b):cw N b.2:=by
 unfold gJ at d;split at d
 ·split at d
  ·split at d
   ·split at d
    ·exact cw.trans (.k (l:=[_]) rfl) (e _ _ d)
    ·cases d
   ·cases d
  ·cases d
 ·cases d
variable {c:Bool->St->WA (R0×St)} {d:Cx}
theorem sB{g:String}(j:dj c)(h:uS f d g a e N c=some b):cw N b.2:=by
 unfold uS at h;split at h
 ·cases h
 ·refine gf (λm k l i=> ?_) h
  try dsimp only at i
  split at i
  ·exact j _ _ _ i
  ·cases i
variable {e:PySem.Expr} {g:PySem.Expr->Env->Sem Wz} {a:IH (R0×St)}
theorem sC(m:gI a){i:PySem.Expr}{h:CmpOp}{X:Env}(n:dj c)(k:xV a g f d e h i X N c=some b):cw N b.2:=by
 unfold xV at k;split at k
 ·refine m.t (λp q o j=> ?_) k
  try dsimp only at j
  split at j
  ·refine m.t (λp r o j=> ?_) j
   try dsimp only at j
   split at j
   ·exact jJ (λ_ _ l=>jJ (λ_ _ l=>sB n l) l) j
   ·cases j
  ·cases j
 ·cases k
theorem xW(l:gI a){h:PySem.Expr->Env->Sem Bool}{X:Env}(m:dj c)(i:j0 a g h f d e X N c=some b):cw N b.2:=by
 unfold j0 at i;split at i
 ·refine cw.trans (λn j=>by first|exact j|exact .tail _ j) (l.t (λq o p k=> ?_) i)
  try dsimp only at k
  split at k
  ·exact m _ _ _ k
  ·cases k
 ·split at i
  ·split at i
   ·exact cw.trans (λn j=>by first|exact j|exact .tail _ j) (sC l m i)
   ·cases i
  ·cases i
 ·cases i
theorem pj(k:gI a){X:Env}{c:Wz->St->WA (R0×St)}(l:dj c)(h:jt a g f d e X N c=some b):cw N b.2:=by
 unfold jt at h;split at h
 ·refine cw.trans (λm j=>by first|exact j|exact .tail _ j) (k.t (λq n o i=> ?_) h)
  try dsimp only at i
  split at i
  ·exact l _ _ _ i
  ·cases i
 ·split at h
  ·split at h
   ·exact cw.trans (λm j=>by first|exact j|exact .tail _ j) (sC k (λp n o i=>l _ _ _ i) h)
   ·cases h
  ·cases h
 ·cases h
theorem qu{a:IH (R0×St)}(m:gI a){g:PySem.Expr->Env->Sem Wz}{h:PySem.Expr->Env->Sem Bool}{f:Nat}{d:Cx}{X:Env}:∀{n:Wy PySem.Expr} {i:St} {k:St->WA (R0×St)} {j:R0×St},fK k->EW a g h f d X n i k=some j->cw i j.2
 |[],i,k,j,l,b=>l _ _ b
 |e::n,i,k,j,l,b=>by
  unfold EW at b;refine xW m (λo p q c=> ?_) b
  try dsimp only at c
  split at c
  ·exact qu m l c
  ·cases c
theorem sD{a:IH (R0×St)}(l:gI a){g:PySem.Expr->Env->Sem Wz}{f:Nat}{d:Cx}{X:Env}:∀{m:Wy PySem.Expr} {c:St} {i:Wz->St->WA (R0×St)} {h:R0×St},dj i->uT a g f d X m c i=some h->cw c h.2
 |[],c,i,h,j,b=>by cases b
 |[e],c,i,h,j,b=>pj l j b
 |e::e2::m,c,i,h,j,b=>by
  unfold uT at b;refine pj l (λn o p k=> ?_) b
  try dsimp only at k
  split at k
  ·exact sD l j k
  ·cases k
end
section
variable {R0:Type} {P:WJ} {w:WG} {K:Nat->WA gi} {F:R0->St->Prop}
theorem sE{e:St->WA (R0×St)}(r:fK e)(d:∀b c,Good F (gJ a (N.w b c) e))(p:Rep P w K Z N I):
  ∃l,I.TypeIs (.ref a) "list" /\(∀b c,Good F (e (l.w b c)))/\Rep P w K Z l I/\cU Z N I l I:=by
 rcases h:N.UT with _|⟨t,x⟩
 ·exact(sb (by simp only[gJ,St.w,h]) (d N.al N.sl)).elim
 ·cases g:cellAt N.led t with
  |none=>exact(sb (by simp only[gJ,St.w,h,g]) (d N.al N.sl)).elim
  |some f=>
   cases i:f.fr with
   |true=>exact(sb (by simp only[gJ,St.w,h,g,i]) (d N.al N.sl)).elim
   |false=>
    cases j:f.obj.cls with
    |type v=>
     cases o:PySem.W.S.strDecS v "list" with
     |isFalse n=>exact(sb (by simp only[gJ,St.w,h,g,i,j,o]) (d N.al N.sl)).elim
     |isTrue n=>
      have m:∀b c,Good F (e (St.w ⟨N.led,N.gl,N.al,N.sl,x,N.use,N.UN,N.bl,.n f.addr a::N.lg⟩ b c)):=λb c=>by
       have:=d b c;simp only[gJ,St.w,h,g,i,j,o]at this;exact this
      have q:f.addr=a:=((m N.al N.sl).sub λy s=>r _ _ s) _ (.head _)
      have k:=p.cell f (t9 g);unfold cR at k;rw[i]at k;refine⟨_,⟨f.obj,q▸k,by rw[j,n]⟩,m,p.same rfl rfl rfl rfl,cU.same I rfl rfl⟩
    |_=>exact(sb (by simp only[gJ,St.w,h,g,i,j]) (d N.al N.sl)).elim
variable {g:CmpOp}
theorem BC{a:String}(b:BB g=some a):Slot "list" (cmpInfo g).2.1 a/\∀c d:Wz,compareOp g c d=richCompare g c d:=by
 cases g with
 |NotEq=>cases b;exact⟨F.slot_list_ne,λ_ _=>rfl⟩
 |Eq=>cases b;exact⟨F.slot_list_eq,λ_ _=>rfl⟩
 |_=>cases b
variable {h:Wz->WF->Prop} {a:WK} {e:Bool->St->WA (R0×St)} {st:St} {j i:PySem.Expr} {b:Cx}
theorem wo(a2:ft P w K F .own f){k:Pos}(V:dj e)
 (z:∀H N,Good F (xV (iter K .own ⟨P,w.params⟩ f) eval d b j g i X (st.w H N) e)){E:Wz->WF->Prop}(ok:oi a d b)(J:eB K a I.heap)(aj:Rep P w K (cC a) st I)
 (a8:∀l o s1,(∀H N,Good F (e l (o.w H N)))->Rep P w K (cC a) o s1->cU (cC a) st I o s1->h (.bool l) s1):
  wpAny (model P w) a (eval j X>>=λy=>holding [y] (eval i X)>>=λG=>standAt k>>=λ_=>operate [y,G] (compareOp g y G)) h E I:=by
 unfold xV at z;cases L:BB g with
 |none=>exact(sb (by simp only[L]) (z st.al st.sl)).elim
 |some id=>
  simp only[L]at z;obtain⟨al,ac⟩:=BC L;have a0:∀m l,fK (R0:=R0) (λp=>uS d b id m l p e):=λm l st r n=>sB V n
  have Z:∀m l,fK (R0:=R0) (λv=>gJ l v λp=>uS d b id m l p e):=λm l st r n=>jJ (a0 m l) n
  have W:∀m,dj (R0:=R0) (λ(r:Except Wz Wz) q=>match r with
    | .ok (.ref l)=>gJ m q λv=>gJ l v λp=>uS d b id m l p e
    |_=>none):=λm x o r n=>by
   try dsimp only at n
   split at n
   ·exact jJ (Z _ _) n
   ·cases n
  have a9:dj (R0:=R0) (λ(Q:Except Wz Wz) o=>match Q with
    | .ok (.ref m)=>(iter K .own ⟨P,w.params⟩ f).t d b (eval i X) o λr q=>match r with
     | .ok (.ref l)=>gJ m q λv=>gJ l v λp=>uS d b id m l p e
     |_=>none
    |_=>none):=λx o r n=>by
   try dsimp only at n
   split at n
   ·exact(cv f).t (W _) n
   ·cases n
  refine ci ?_;refine a2 d b (eval j X) st _ a9 z a I _ _ ok J aj λM o s1 A ae T=> ?_
  cases M with
  |error R=>exact(sb rfl (A o.al o.sl)).elim
  |ok y=>
   cases y with
   |ref m=>
    dsimp only at A|-;refine ci (wpAny_holding ?_);refine a2 d b (eval i X) o _ (W m) A a s1 _ _ ok (J.UU T) ae λM q ap C af a4=> ?_
    have a3:=T.trans a4;cases M with
    |error R=>exact(sb rfl (C q.al q.sl)).elim
    |ok G=>
     cases G with
     |ref l=>
      dsimp only at C|-;refine ci (wpAny_standAt ?_);refine wpAny_operate' ?_;rw[ac];obtain⟨v,an,ab,ag,c3⟩:=sE (Z m l) C af;obtain⟨p,ao,a1,ah,a5⟩:=sE (a0 m l) ab ag;have Y:=(a3.trans c3).trans a5;cases d with
      |zero=>exact(sb rfl (a1 p.al p.sl)).elim
      |succ d=>
       refine wpAny_richCompare_same_room an ao al (wpAny_call ?_) (by have:=ok.U9;show a.units<9900;omega);have aa:dj (R0:=R0) (λ(x:WH) o=>match x with
         | .ok (.ret (.bool O))=>e O o
         |_=>none):=λx o r n=>by
        try dsimp only at n
        split at n
        ·exact V _ _ _ n
        ·cases n
       refine hW (d:=d) (cx:=b) (c:= .call (.builtin id) ⟨[.ref m,.ref l],[]⟩) (st:=p) (os:=p.UT) aa a1 ⟨ok.hd,ok.top,by have:=ok.dep;omega,by have:=ok.U9;omega⟩ (J.UU Y) ah λx s ak D ai a6=> ?_
       cases x with
       |error R=>exact(sb rfl (D s.al s.sl)).elim
       |ok a7=>
        cases a7 with
        |ret O=>
         cases O with
         |bool l=>exact⟨(λQ=>nomatch Q),a8 l s ak D ai (Y.trans a6)⟩
         |_=>exact(sb rfl (D s.al s.sl)).elim
        |_=>exact(sb rfl (D s.al s.sl)).elim
     |_=>exact(sb rfl (C q.al q.sl)).elim
   |_=>exact(sb rfl (A o.al o.sl)).elim
variable {c:PySem.Expr}
theorem wq{a:Pos}(b:xU c=some (j,g,i,a)):c= .Compare j [g] [i] a:=by
 unfold xU at b;split at b
 ·cases b;rfl
 ·cases b
def Jg(a:PySem.Expr)(b:Env):Sem Bool:=isTrue a b (eval a b)
theorem sF(M:ft P w K F .own f)(L:dj e)
 (m:∀k l,Good F (j0 (iter K .own ⟨P,w.params⟩ f) eval Jg d b c X (st.w k l) e)){h:Bool->WF->Prop}{E:Wz->WF->Prop}(ok:oi a d b)(J:eB K a I.heap)(N:Rep P w K (cC a) st I)
 (H:∀i g s1,(∀k l,Good F (e i (g.w k l)))->Rep P w K (cC a) g s1->cU (cC a) st I g s1->h i s1):
  wpAny (model P w) a (isTrue c X (eval c X)) h E I:=by
 rcases n:st.UT with _|⟨_|_|R,x⟩
 ·exact(sb (by simp only[j0,St.w,n]) (m st.al st.sl)).elim
 ·have p:=λk l=>m k l
  simp only[j0,St.w,n]at p;have T:dj (R0:=R0) (λ(j:Except Wz Bool) g=>match j with
    | .ok i=>e i g
    | .error _=>none):=λQ g V t=>by
   try dsimp only at t
   split at t
   ·exact L _ _ _ t
   ·cases t
  refine M d b (Jg c X) {st with UT:=x} _ T p a I _ _ ok J (N.same rfl rfl rfl rfl) λY g s1 r D z=> ?_
  have A:cU (cC a) st I g s1:=cU.trans (st1:={st with UT:=x}) (.same I rfl rfl) z;cases Y with
  |error c=>exact(sb rfl (r g.al g.sl)).elim
  |ok i=>exact H i g s1 r D A
 ·cases s:xU c with
  |none=>exact(sb (by simp only[j0,St.w,n,s]) (m st.al st.sl)).elim
  |some Q=>
   obtain⟨v,o,j,y⟩:=Q;cases C:lastMarks [o] [j]with
   |true=>exact(sb (by simp only[j0,St.w,n,s,C]) (m st.al st.sl)).elim
   |false=>
    have p:=λk l=>m k l
    simp only[j0,St.w,n,s,C]at p;rw[wq s];have e1:isTrue (.Compare v [o] [j] y) X (eval (.Compare v [o] [j] y) X)=(eval v X>>=λq=>holding [q] (eval j X)>>=λO=>standAt y>>=λ_=>operate [q,O] (compareOp o q O))>>=λG=>holding [G] (truthy G):=by
     show(eval v X>>=λq=>testChain y q [o] (markedEach [o] [j] (evalEach [j] X)))=_
     rw[markedEach_of_false _ _ _ C];simp only[bind_assoc];rfl
    rw[e1];refine ci (wo (st:={st with UT:=x}) M L p ok J (N.same rfl rfl rfl rfl) λi g s1 r D z=> ?_)
    have A:cU (cC a) st I g s1:=cU.trans (st1:={st with UT:=x}) (.same I rfl rfl) z;exact wpAny_holding (wpAny_truthy_bool (H i g s1 r D A))
 ·exact(sb (by simp only[j0,St.w,n]) (m st.al st.sl)).elim
theorem sG(G:ft P w K F .own f){e:Wz->St->WA (R0×St)}(D:dj e)
 (l:∀j k,Good F (jt (iter K .own ⟨P,w.params⟩ f) eval d b c X (N.w j k) e)){E:Wz->WF->Prop}(ok:oi a d b)(C:eB K a I.heap)(L:Rep P w K (cC a) N I)
 (A:∀i g s1,(∀j k,Good F (e i (g.w j k)))->Rep P w K (cC a) g s1->cU (cC a) N I g s1->h i s1):
  wpAny (model P w) a (eval c X) h E I:=by
 rcases m:N.UT with _|⟨_|_|V,s⟩
 ·exact(sb (by simp only[jt,St.w,m]) (l N.al N.sl)).elim
 ·have o:=λj k=>l j k
  simp only[jt,St.w,m]at o;have T:dj (R0:=R0) (λ(p:Except Wz Wz) g=>match p with
    | .ok i=>e i g
    | .error _=>none):=λO g R n=>by
   try dsimp only at n
   split at n
   ·exact D _ _ _ n
   ·cases n
  refine G d b (eval c X) {N with UT:=s} _ T o a I _ _ ok C (L.same rfl rfl rfl rfl) λY g s1 q z t=> ?_
  have Q:cU (cC a) N I g s1:=cU.trans (st1:={N with UT:=s}) (.same I rfl rfl) t;cases Y with
  |error c=>exact(sb rfl (q g.al g.sl)).elim
  |ok i=>exact A i g s1 q z Q
 ·cases r:xU c with
  |none=>exact(sb (by simp only[jt,St.w,m,r]) (l N.al N.sl)).elim
  |some O=>
   obtain⟨H,y,p,J⟩:=O;cases v:lastMarks [y] [p]with
   |true=>exact(sb (by simp only[jt,St.w,m,r,v]) (l N.al N.sl)).elim
   |false=>
    have o:=λj k=>l j k
    simp only[jt,St.w,m,r,v]at o;rw[wq r];have e1:eval (.Compare H [y] [p] J) X=(eval H X>>=λx=>holding [x] (eval p X)>>=λM=>standAt J>>=λ_=>operate [x,M] (compareOp y x M)):=by
     rw[arm_eval_Compare,markedEach_of_false _ _ _ v];rfl
    rw[e1];refine wo (st:={N with UT:=s}) G (λi g R n=>D _ _ _ n) o ok C (L.same rfl rfl rfl rfl) λi g s1 q z t=> ?_
    exact A (.bool i) g s1 q z (cU.trans (st1:={N with UT:=s}) (.same I rfl rfl) t)
 ·exact(sb (by simp only[jt,St.w,m]) (l N.al N.sl)).elim
theorem BD{f:Nat}(y:ft P w K F .own f){d:Nat}{b:Cx}{X:Env}:∀(i:Wy PySem.Expr) {st:St} {h:St->WA (R0×St)},fK h->
  (∀m t,Good F (EW (iter K .own ⟨P,w.params⟩ f) eval Jg d b X i (st.w m t) h))->∀{c:WK} {g:WF} {k:Bool->WF->Prop} {E:Wz->WF->Prop},oi c d b->eB K c g.heap->Rep P w K (cC c) st g->
  (∀a s1,(∀m t,Good F (h (a.w m t)))->Rep P w K (cC c) a s1->cU (cC c) st g a s1->k false s1)->
  wpAny (model P w) c (allTrue .Or i X) k E g
 |[],st,h,q,j,c,g,k,E,r,p,s,o=>cj (o st g j s (.refl ..))
 |e::i,st,h,q,j,c,g,k,E,r,p,s,o=>by
  unfold EW at j;have A:dj (R0:=R0) (λ(n:Bool) a=>match n with
    |false=>EW (iter K .own ⟨P,w.params⟩ f) eval Jg d b X i a h
    |true=>none):=λL a J l=>by
   try dsimp only at l
   split at l
   ·exact qu (cv f) q l
   ·cases l
  unfold allTrue;refine ci (sF y A j r p s λn a s1 x D v=> ?_)
  cases n with
  |true=>exact(sb rfl (x a.al a.sl)).elim
  |false=>exact BD y i q x r (p.UU v) D λI H C G z=>o I H C G (v.trans z)
theorem wr{f:Nat}(x:ft P w K F .own f){d:Nat}{b:Cx}{X:Env}{k:Pos}:∀(m:Wy PySem.Expr) {st:St} {i:Wz->St->WA (R0×St)},dj i->
  (∀t y,Good F (uT (iter K .own ⟨P,w.params⟩ f) eval d b X m (st.w t y) i))->∀{g:WK} {h:WF} {l:Wz->WF->Prop} {E:Wz->WF->Prop},oi g d b->eB K g h.heap->Rep P w K (cC g) st h->
  (∀a c s1,(∀t y,Good F (i a (c.w t y)))->Rep P w K (cC g) c s1->cU (cC g) st h c s1->l a s1)->
  wpAny (model P w) g (boolOp k .And (evalEach m X)) l E h
 |[],st,i,o,j,g,h,l,E,p,n,s,q=>(sb rfl (j st.al st.sl)).elim
 |[e],st,i,o,j,g,h,l,E,p,n,s,q=>sG x o j p n s q
 |e::e2::m,st,i,o,j,g,h,l,E,p,n,s,q=>by
  unfold uT at j;have D:dj (R0:=R0) (λ(a:Wz) c=>match a with
    | .bool true=>uT (iter K .own ⟨P,w.params⟩ f) eval d b X (e2::m) c i
    |_=>none):=λO c N r=>by
   try dsimp only at r
   split at r
   ·exact sD (cv f) o r
   ·cases r
  show wpAny (model P w) g (eval e X>>=λa=>standAt k>>=λ_=>holding [a] (truthy a)>>=λM=>match BoolOp.And,M with
   | .And,false| .Or,true=>pure a
   |_,_=>boolOp k .And (evalEach (e2::m) X)) l E h
  refine ci (sG x D j p n s λa c s1 v H z=> ?_)
  cases a with
  |bool A=>
   cases A with
   |false=>exact(sb rfl (v c.al c.sl)).elim
   |true=>
    refine ci (wpAny_standAt (ci (wpAny_holding (wpAny_truthy_bool ?_))));exact wr x (e2::m) o v p (n.UU z) H λa L J G I C=>q a L J G I (z.trans C)
  |_=>exact(sb rfl (v c.al c.sl)).elim
end
def Sj(a:PySem.Expr)(b:Env):Sem Bool:=PySem.W.Fast.tw15418851999007992765 a b (PySem.W.Fast.tw14044960220447912780 a b)
theorem Jh:Sj=Jg:=by funext a b;unfold Sj Jg;rw[<-PySem.W.Fast.te15418851999007992765,<-PySem.W.Fast.te14044960220447912780]
def J5:Stmt->Bool×Wy PySem.Expr
 | .If (.BoolOp .Or b _) _ [] _=>(true,b)
 | .If a _ [] _=>(false,[a])
 |_=>(false,[])
def EX:Stmt->Wy PySem.Expr
 | .Return (some (.BoolOp .And a _)) _=>a
 |_=>[]
def xX(u:WB)(S:Spec)(a:fF)(d:AL)(f:SL):WA (WH×St):=
 EW (iter (KB (W2 u)) XF ⟨PW,(Pm u)⟩ a.n) PySem.W.Fast.tw14044960220447912780 Sj S.dep ⟨none,S.top⟩ (gS S.code) (J5 (dH (dS S.code))).2 (dd S.UM a.UT (dz a.us a.ps a.gs a.bs) (di a.ss a.U2 a.UY a.U1) d f) λc=>
  (iter (KB (W2 u)) XF ⟨PW,(Pm u)⟩ a.n).b S.dep ⟨none,S.top⟩ (dS S.code).tail (gS S.code) c λe c=>some (e,c)
def xY(u:WB)(S:Spec)(a:fF)(b:AL)(c:SL):WA (WH×St):=
 uT (iter (KB (W2 u)) XF ⟨PW,(Pm u)⟩ a.n) PySem.W.Fast.tw14044960220447912780 S.dep ⟨none,S.top⟩ (gS S.code) (EX (dH (dS S.code))) (dd S.UM a.UT (dz a.us a.ps a.gs a.bs) (di a.ss a.U2 a.UY a.U1) b c) λe d=>some (.ok (.ret e),d)
theorem Pp{S:Spec}(a:fF)(i:uh)(h:uh)(y:Wy f8)(C:AL->SL->AL)(I:AL->SL->SL)
 (a4:cq u a.us)(a3:sr u a.ss)
 (L:∀b c,Hq (xY u S a b c) i h y (S.res (C b c) (I b c)) S.UM (C b c) (I b c))
 (q:∃k s t,S.code= .block (.Return (some (.BoolOp .And (EX (dH (dS S.code))) k)) s::t) (gS S.code):=by exact⟨_,_,_,rfl⟩)
 (a0:i.Nodup:=by decide)(X:h.Nodup:=by decide)(a1:Hl S.UM:=by intro _ _;rfl)(Z:Hg S.UM:=by intro _ _;rfl):OK u S:=by
 intro g R v j Y O N a2 p;have m:∀b c,Good (Gq S.res S.UM i h y) (xY u S a b c):=λb c=>by
  obtain⟨H,f,d,e,o⟩:=gM (L b c);exact⟨H,f,d,e,_,_,o⟩
 unfold xY at m;rw[<-l2,<-PySem.W.Fast.te14044960220447912780]at m;obtain⟨k,s,t,q⟩:=q;generalize EX (dH (dS S.code))=e at*;generalize gS S.code=D at*;rw[q];show wpAny (model PW (W2 u)) g (execs (.Return (some (.BoolOp .And e k)) s::t) D) (λo x=>R (.ok o) x) (λd x=>R (.error d) x) v
 have V:dj (R0:=WH) (λ(l:Wz) f=>some (Except.ok (Flow.ret l),f)):=λac f ah a5=>by
  cases a5;exact λ_ p=>p
 obtain⟨ab,ae,af,ag⟩:=l1 (R0:=WH) (P:=PW) (w:=W2 u) (F:=Gq S.res S.UM i h y) (m8 (W2 u)) a.n;have a7:oi g S.dep ⟨none,S.top⟩:=⟨j.hd,j.top,by have:=j.dep;omega,by have:=j.U9;omega⟩;have a9:Rep PW (W2 u) (KB (W2 u)) (cC g) (dd S.UM a.UT (dz a.us a.ps a.gs a.bs) (di a.ss a.U2 a.UY a.U1) (λ_=>0) (λ_=> #[])) v:=e5 _ _ a2 O N (λz r=>a4.mem _ (eC z r)) (λz r=>a3.mem _ (ed z r))
 refine wpAny_execs_cons ?_;rw[arm_exec_Return];refine ci (wpAny_standAt ?_);show wpAny _ g (boolOp k .And (evalEach e D)>>=λl=>pure (Flow.ret l)) _ _ v
 refine ci (wr (st:=dd S.UM a.UT (dz a.us a.ps a.gs a.bs) (di a.ss a.U2 a.UY a.U1) (λ_=>0) (λ_=> #[])) ab e V m a7 Y a9 λl J s1 a6 a8 Q=> ?_)
 refine cj ?_;obtain⟨H,f,d,_,M,aa,A⟩:=a6 J.al J.sl;cases d;simp only[Prod.mk.injEq]at A;obtain⟨e1,e2,e3,T⟩:=A;have G:=p M aa s1 (iq a8 Q rfl rfl a0 X (a1 _ _) (Z _ _) e2 e3 T);rw[<-e1]at G;exact G
theorem Pq{S:Spec}(a:fF)(s:uh)(r:uh)(A:Wy f8)(Q:AL->SL->AL)(a2:AL->SL->SL)
 (al:cq u a.us)(aj:sr u a.ss)
 (a5:∀d e,Hq (xX u S a d e) s r A (S.res (Q d e) (a2 d e)) S.UM (Q d e) (a2 d e))
 (I:∃v D M,S.code= .block (.If v D [] M::(dS S.code).tail) (gS S.code)/\((∃a0,v= .BoolOp .Or (J5 (dH (dS S.code))).2 a0)\/[v]=(J5 (dH (dS S.code))).2):=by first|exact⟨_,_,_,rfl,.inl ⟨_,rfl⟩⟩|exact⟨_,_,_,rfl,.inr rfl⟩)
 (ag:s.Nodup:=by decide)(ae:r.Nodup:=by decide)(ah:Hl S.UM:=by intro _ _;rfl)(af:Hg S.UM:=by intro _ _;rfl):OK u S:=by
 intro h R z y G a8 a7 ai H;have p:∀d e,Good (Gq S.res S.UM s r A) (xX u S a d e):=λd e=>by
  obtain⟨Z,b,i,x,q⟩:=gM (a5 d e);exact⟨Z,b,i,x,_,_,q⟩
 unfold xX at p;rw[<-l2,<-PySem.W.Fast.te14044960220447912780,Jh]at p;obtain⟨v,D,M,I,ak⟩:=I;generalize (J5 (dH (dS S.code))).2=x at*;generalize (dS S.code).tail=o at*;generalize gS S.code=g at*;rw[I];show wpAny (model PW (W2 u)) h (execs (.If v D [] M::o) g) (λq j=>R (.ok q) j) (λi j=>R (.error i) j) z
 have V:dj (R0:=WH) (λ(f:WH) b=>some (f,b)):=λf b ax an=>by
  cases an;exact λ_ H=>H
 obtain⟨a3,av,as,aw⟩:=l1 (R0:=WH) (P:=PW) (w:=W2 u) (F:=Gq S.res S.UM s r A) (m8 (W2 u)) a.n;have Y:fK (R0:=WH) (λb=>(iter (KB (W2 u)) .own ⟨PW,(Pm u)⟩ a.n).b S.dep ⟨none,S.top⟩ o g b λf b=>some (f,b)):=λb au l=>(cv a.n).b V l
 have L:oi h S.dep ⟨none,S.top⟩:=⟨y.hd,y.top,by have:=y.dep;omega,by have:=y.U9;omega⟩;have a1:Rep PW (W2 u) (KB (W2 u)) (cC h) (dd S.UM a.UT (dz a.us a.ps a.gs a.bs) (di a.ss a.U2 a.UY a.U1) (λ_=>0) (λ_=> #[])) z:=e5 _ _ ai a8 a7 (λN J=>al.mem _ (eC N J)) (λN J=>aj.mem _ (ed N J))
 refine wpAny_execs_cons ?_;rw[arm_exec_If];refine ci (wpAny_standAt ?_);have X:∀(c:St) (s1:WF),(∀d e,Good (Gq S.res S.UM s r A) ((iter (KB (W2 u)) .own ⟨PW,(Pm u)⟩ a.n).b S.dep ⟨none,S.top⟩ o g (c.w d e) λf b=>some (f,b)))->Rep PW (W2 u) (KB (W2 u)) (cC h) c s1->cU (cC h) (dd S.UM a.UT (dz a.us a.ps a.gs a.bs) (di a.ss a.U2 a.UY a.U1) (λ_=>0) (λ_=> #[])) z c s1->
   wpAny (model PW (W2 u)) h (execs o g) (λq j=>R (.ok q) j) (λi j=>R (.error i) j) s1:=λc s1 m t k=>by
  refine as S.dep ⟨none,S.top⟩ o g c _ V m h s1 _ _ L (G.UU k) t λf a4 aq ao ap aa=> ?_
  have a9:=k.trans aa;obtain⟨Z,b,i,_,a6,ar,O⟩:=ao a4.al a4.sl;cases i;simp only[Prod.mk.injEq]at O;obtain⟨e1,e2,e3,ab⟩:=O;have T:=H a6 ar aq (iq ap a9 rfl rfl ag ae (ah _ _) (af _ _) e2 e3 ab);rw[<-e1]at T;cases f<;>exact T
 have e0:execs ([]:Wy Stmt) g=pure Flow.next:=by unfold execs;rfl
 rcases ak with⟨a0,rfl⟩|rfl
 ·refine ci ?_;show wpAny _ h (allTrue .Or x g) _ _ z;refine BD (st:=dd S.UM a.UT (dz a.us a.ps a.gs a.bs) (di a.ss a.U2 a.UY a.U1) (λ_=>0) (λ_=> #[])) a3 x Y p L G a1 λc s1 m t k=> ?_
  rw[if_neg (by decide),e0];exact cj (X c s1 m t k)
 ·refine ci ?_;unfold EW at p;have ac:dj (R0:=WH) (λ(C:Bool) c=>match C with
    |false=>EW (iter (KB (W2 u)) .own ⟨PW,(Pm u)⟩ a.n) eval Jg S.dep ⟨none,S.top⟩ g [] c λb=>(iter (KB (W2 u)) .own ⟨PW,(Pm u)⟩ a.n).b S.dep ⟨none,S.top⟩ o g b λf b=>some (f,b)
    |true=>none):=λay c au l=>by
   try dsimp only at l
   split at l
   ·exact qu (cv a.n) Y l
   ·cases l
  refine sF (st:=dd S.UM a.UT (dz a.us a.ps a.gs a.bs) (di a.ss a.U2 a.UY a.U1) (λ_=>0) (λ_=> #[])) a3 ac p L G a1 λC c s1 m t k=> ?_
  cases C with
  |true=>exact(sb rfl (m c.al c.sl)).elim
  |false=>
   rw[if_neg (by decide),e0];exact cj (X c s1 m t k)
end
section
open PySem.Calls
variable {a:Wy TU}
theorem jT{S:Spec}(o:Nat)(p:Wy (uh))(h:uh)(g:AL->SL->AL)(z:cq u a)(j:Wy (uh):=[])(J:Wy (Wy f8):=[])(d:uh:=[])(m:Wy f8:=[])(f:AL->SL->SL:=g4 [])(e:Wy TG:=[])(k l:Wy (uh):=[])(n:Wy (Wy f8):=[])(r:sr u e:=by trivial)
 (q:∀b c,Hq (xX u S ⟨2000,dc o,a,p,j,J,e,k,l,n⟩ b c) h d m (S.res (g b c) (f b c)) S.UM (g b c) (f b c):=by intro b D;show _=_;first|(obtain⟨G,b1,b2⟩:=u;cases b1<;>kernel_rfl)|(cases b1<;>kernel_rfl))
 (t:∃i s C,S.code= .block (.If i s [] C::(dS S.code).tail) (gS S.code)/\((∃A,i= .BoolOp .Or (J5 (dH (dS S.code))).2 A)\/[i]=(J5 (dH (dS S.code))).2):=by first|exact⟨_,_,_,rfl,.inl ⟨_,rfl⟩⟩|exact⟨_,_,_,rfl,.inr rfl⟩)(x:h.Nodup:=by decide)(v:d.Nodup:=by decide)(y:Hl S.UM:=by intro _ _;rfl)(w:Hg S.UM:=by intro _ _;rfl):OK u S:=
 Pq ⟨2000,dc o,a,p,j,J,e,k,l,n⟩ h d m g f z r q t x v y w
theorem rT{S:Spec}(o:Nat)(p:Wy (uh))(h:uh)(g:AL->SL->AL)(y:cq u a)(i:Wy (uh):=[])(j:Wy (Wy f8):=[])(d:uh:=[])(m:Wy f8:=[])(f:AL->SL->SL:=g4 [])(e:Wy TG:=[])(k l:Wy (uh):=[])(n:Wy (Wy f8):=[])(r:sr u e:=by trivial)
 (q:∀b c,Hq (xY u S ⟨2000,dc o,a,p,i,j,e,k,l,n⟩ b c) h d m (S.res (g b c) (f b c)) S.UM (g b c) (f b c):=by intro b D;show _=_;first|(obtain⟨G,b1,b2⟩:=u;cases b1<;>kernel_rfl)|(cases b1<;>kernel_rfl))
 (s:∃z A C,S.code= .block (.Return (some (.BoolOp .And (EX (dH (dS S.code))) z)) A::C) (gS S.code):=by exact⟨_,_,_,rfl⟩)(w:h.Nodup:=by decide)(t:d.Nodup:=by decide)(x:Hl S.UM:=by intro _ _;rfl)(v:Hg S.UM:=by intro _ _;rfl):OK u S:=
 Pp ⟨2000,dc o,a,p,i,j,e,k,l,n⟩ h d m g f y r q s w t x v
end
section
open PySem.Calls PySem.SeqAt
def Ps(b:String)(a:ui)(c:Wy (Nat×gi))(d:Wz):Spec:=⟨.call (.builtin b) ⟨a,[]⟩,6,none,kJ c,λ_ _=>uj d⟩
inductive ju (pre:Wy (Nat×gi)):Wz->Wz->Prop where
 |plain {x y:Wz} (h:Eqv x y true):ju pre x y
 |lists {a b:Nat} {ps:Wy cl} {F G:AL} {e1 e2:Nat} (h1:(a,cp ps F e1)∈pre) (h2:(b,cp ps G e2)∈pre):ju pre (.ref a) (.ref b)
def fa(a:Wy (Nat×gi)):ui->ui->Prop
 |[],[]=>True
 |x::b,d::c=>ju a x d/\fa a b c
 |_,_=>False
theorem fa.len{a:Wy (Nat×gi)}:∀{c d:ui},fa a c d->c.length=d.length
 |[],[],_=>rfl
 |_::_,_::_,b=>congrArg (· +1) (fa.len b.2)
 |[],_::_,b=>b.elim
 |_::_,[],b=>b.elim
theorem fa.at{a:Wy (Nat×gi)}:∀{e f:ui},fa a e f->∀b (d:b<e.length) (g:b<f.length),ju a e[b] f[b]
 |_::_,_::_,c,0,_,_=>c.1
 |_::_,_::_,c,b+1,d,g=>fa.at c.2 b (by simpa using d) (by simpa using g)
 |[],_,_,b,d,_=>by simp at d
 |_::_,[],c,_,_,_=>c.elim
section
variable {P:WJ} {w:WG} {K:Nat->WA gi}
theorem pairAt{a:Wy (Nat×gi)}{A:WK}(m:∀o∈a,I.heap.get? o.1=some o.2)(t:A.units<cLine)(g:ju a v x):EqAt A I v x true:=by
 cases g with
 |plain g=>intro h w E f i;exact g h w A E I f i
 | @lists j k b F d e1 e2 r s=>
  by_cases l:j=k
  ·subst l;exact EqAt.same _
  have y:I.heap.IsList j ⟨d3 b F⟩:=⟨_,m _ r,rfl,e1,rfl⟩;have z:I.heap.IsList k ⟨d3 b d⟩:=⟨_,m _ s,rfl,e2,rfl⟩;have n:=RcAt.lists (A:=A) (e:=λ_=>true) y z (by show(d3 b F).length=(d3 b d).length;rw[d8,d8]) t λc p q=>by
   intro h w E f i;have e1:(⟨d3 b F⟩:ug)[c]= .bytes (b.getD c #[]) (F c):=uP b F c p;have e2:(⟨d3 b d⟩:ug)[c]= .bytes (b.getD c #[]) (d c):=uP b d c q;rw[e1,e2];exact Eqv.bytes (by simp) h w A.in1 E I f i
  rw[show((List.range (⟨d3 b F⟩:ug).size).all λ_=>true)=true by simp]at n
  exact EqAt.of_refs l n
variable {more:Wy (Nat×gi)} {xs ys:ui}
theorem ws(j:fa more xs ys):ct P w K (Ps "list.__ne__" [.ref c,.ref a] ((c,cm xs.toArray d)::(a,cm ys.toArray e)::more) (.bool false)):=by
 intro g R f t x v o l q;have i:=el (pre:=(c,cm xs.toArray d)::(a,cm ys.toArray e)::more) l;have k:=i (c,cm xs.toArray d) (.head _);have p:=i (a,cm ys.toArray e) (.tail _ (.head _));have h:∀b∈more,f.heap.get? b.1=some b.2:=λb h=>i b (.tail _ (.tail _ h))
 have r:g.in1.units<cLine:=by have:=t.U9;show g.units+1<9900;omega
 refine codeAny_call_builtin F.slot_list_ne.plain qr (F.slot_list_ne.check _ _ _ _ _ _ _ _ ⟨_,k,rfl⟩ (F.args_list_ne_2 _ _) ?_);refine list_neAt c a xs.toArray ys.toArray d e none none #[] #[] (by simpa using j.len) (λ_=>true) P w g R f ⟨k,p,λs m n=> ?_, ?_⟩
 ·have:=pairAt h r (j.at s (by simpa using m) (by simpa using n));simpa using this
 ·have:=q (λ_=>0) (λ_=> #[]) f (gA l o ⟨f.toks,rfl⟩)
  rw[show(!(List.range xs.toArray.size).all λ_=>true)=false by simp]
  exact this
theorem EY(j:fa more xs ys):ct P w K (Ps "list.__eq__" [.ref c,.ref a] ((c,cm xs.toArray d)::(a,cm ys.toArray e)::more) (.bool true)):=by
 intro g R f t x v o l q;have i:=el (pre:=(c,cm xs.toArray d)::(a,cm ys.toArray e)::more) l;have k:=i (c,cm xs.toArray d) (.head _);have p:=i (a,cm ys.toArray e) (.tail _ (.head _));have h:∀b∈more,f.heap.get? b.1=some b.2:=λb h=>i b (.tail _ (.tail _ h))
 have r:g.in1.units<cLine:=by have:=t.U9;show g.units+1<9900;omega
 refine codeAny_call_builtin F.slot_list_eq.plain qq (F.slot_list_eq.check _ _ _ _ _ _ _ _ ⟨_,k,rfl⟩ (F.args_list_eq_2 _ _) ?_);refine list_eqAt c a xs.toArray ys.toArray d e none none #[] #[] (by simpa using j.len) (λ_=>true) P w g R f ⟨k,p,λs m n=> ?_, ?_⟩
 ·have:=pairAt h r (j.at s (by simpa using m) (by simpa using n));simpa using this
 ·have:=q (λ_=>0) (λ_=> #[]) f (gA l o ⟨f.toks,rfl⟩)
  rw[show((List.range xs.toArray.size).all λ_=>true)=true by simp]
  exact this
theorem lR{a:Wy (Nat×gi)}:∀(b:Wy cl) (F c:AL),fa a (d3 b F) (d3 b c)
 |[],_,_=>trivial
 |d::b,F,c=>⟨.plain (Eqv.bytes (by simp)),lR b (cy F) (cy c)⟩
theorem Eqv.none:Eqv .none .none true:=λc w a E e b d=>EqAt.same (A:=a) (s:=e) .none c w E b d
end
def Pt(d:Wy cl)(e f:Wy AL->AL):U:=λa c b=>Ps "list.__eq__" [.ref (ad a 0),.ref (ad a 1)] [(ad a 0,cp d (e b) (eJ c 0)),(ad a 1,cp d (f b) (eJ c 1))] (.bool true)
def Pu(d:Wy cl)(e f:Wy AL->AL):U:=λa c b=>Ps "list.__ne__" [.ref (ad a 0),.ref (ad a 1)] [(ad a 0,cp d (e b) (eJ c 0)),(ad a 1,cp d (f b) (eJ c 1))] (.bool false)
variable {a b:Wy AL->AL}
theorem EZ:∀d e c,OK u (Pt A a b d e c):=λd e c=>EY (more:=[]) (xs:=d3 A (a c)) (ys:=d3 A (b c)) (lR A _ _)
theorem E0:∀d e c,OK u (Pu A a b d e c):=λd e c=>ws (more:=[]) (xs:=d3 A (a c)) (ys:=d3 A (b c)) (lR A _ _)
end
section
def TN(a:WC)(c:AL)(b:Nat->Wz):Nat->Wy String->Wy WL
 |_,[]=>[]
 |i,e::d=>dx a e (c i) (b i)::TN a c b (i+1) d
def E1:Wy String:=["script","number","parents","one","two","encoding","more","signature","rows","bare","text","read","told","twin","early"]
def gx(b:WC)(d:AL)(c:Nat->Wz)(a:Nat):gi:=ot (TN b d c 0 (E1.take a)) a
def j3:gi:=⟨.type "cell",none,.cell none,#[]⟩
def BE(c b a:Nat):gi:=⟨.none,none,.fields #[.int c 0,.int b 0,.ref a],#[]⟩
structure LC where
 (L cS cM cO cW:Nat)
def Pw(a:LC):Env:=⟨vr [68],a.L,3,[(lq "wrong",a.cW),(lq "other",a.cO),(lq "message",a.cM),(lq "state",a.cS)],lq "law.<locals>.",some 975,.ref 974,some a.L,0⟩
def wt(a:Nat)(b:LC):Code:= .block ((inner (mj PW.main.body [68])).drop a) (Pw b)
def gX(b:Rd)(e:WA cl)(a:AL)(f:Nat):CQ:=⟨a 0,a 1,a 2,a 3,0,b.ps.length,[b.T],λ_=>f,zq (a 15) (a 16) (a 17),cn 21 a,λc=>match c with|0=>a 7|1=>a 9|2=>a 12|3=>a 10|_=>a 13,Qt b e a,b.d.r,b.fA.person,b.fC.person⟩
structure sH where
 x:LC
 ks:AL
 V:Nat->Wz
 T:cl
 (tn pl U5:Nat)
 Fp:AL
 msg:cl
 (tm wl VM:Nat)
 XW:ug
 e:Bool
def sH.vv(a:sH):Nat->Wz:=λb=>match b with
 |1=>.bytes a.T a.tn
 |2=>.ref a.pl
 |14=>.bool a.e
 |c=>a.V c
def BF(c:WC)(a:sH)(f:Wy cl)(b:Nat)(d:Wz)(g:Nat)(e:ui):Wy cK:=⟨a.x.L,gx c a.ks a.vv 15,true⟩::pl [(a.x.cM,dP (.bytes a.msg a.tm)),(a.x.cO,j3),(a.x.cW,dP (.ref a.wl)),(a.wl,cm a.XW a.VM),(a.pl,cp f a.Fp a.U5),(393,ee b),(b,dq d cZ g e),(972,fm)]
def uU(f:Nat)(b:WC)(a:sH)(h:Wy cl)(RW:Wy dh)(e:Nat)(c:Wz)(i:Nat)(g:ui):Spec:=
 ⟨wt f a.x,308-f,some a.x.L,⟨BF b a h e c i g,[],λd _=>[gx b a.ks a.vv 15,dP (.bytes a.msg a.tm),dP (.ref (d 0)),dP (.ref a.wl),cm a.XW a.VM,cp h a.Fp a.U5,ee e,dq c cZ i g,BE 1000 78 (d 1)],nn,nn,nn,[⟨a.XW,RW⟩],nn⟩,λ_ _=>uj (.bool true)⟩
def J6(a:Rd)(b:cl):Rd:=⟨b,a.d,a.ds,a.msg,a.A,a.C,a.ps,a.en,a.E,a.fA,a.fC⟩
def Sk(b c:cl):U:=λa e d=>fh "bytes.__eq__" [.bytes b (tk a 0),.bytes c (tk a 1)] [] λ_=>.bool true
def Ji(b:WC)(a:sH)(e:CQ)(d:Wy cl)(i j:Wz)(g:Nat)(f:Wz)(k:Nat)(h:ui):Wy cK:=⟨a.x.L,gx b a.ks a.vv 15,true⟩::pl ([(a.x.cO,dP (.ref e.c)),(a.pl,cp d a.Fp a.U5),(972,fm)]++uO b e d i j g f k h)
def Px(e:WC)(b:sH)(a:CQ)(f:Wy cl)(j k:Wz)(h:Nat)(g:Wz)(l:Nat)(i:ui):Spec:=
 ⟨wt 29 b.x,279,some b.x.L,⟨Ji e b a f j k h g l i,[],λm _=>[gx e b.ks b.vv 15,dP (.ref a.c),cp f b.Fp b.U5,BE 1000 78 (m 0),eu 888 a.d,o9 0 e (IS a j k) a.ks,cp a.bs a.F a.Va,cp f a.Fp a.Wl,ee h,dq g cZ l i],nn,nn,nn,[],nn⟩,λ_ _=>uj (.bool true)⟩
variable {a:sH}
theorem Jj{b:CQ}{d:Wz}{f:AL->Wz}(i:b.T=a.T)(j:OK u (fo (Pm u) b A x d c v e L f)):OK u (Px (Pm u) a b A x d c v e L):=by
 have l:cq u [Sk b.T a.T,Pt A (λ_=>b.Fp) (λ_=>a.Fp),λg k h=>fo (Pm u) b A x d c v e L f]:=⟨λg k h=>lB (by rw[i];simp),EZ,λg k h=>j,cg⟩
 clear i j;exact rT 0x102307f15f38f138fa17f6607201213307f16600f0101431f407f01210f770839400007208f0dd0dd0dd400f0111020120023100ed705f011d000011d12d0101211103110300003003311 [[],[9,4],[16,17,18,19,20,21]] [9,8,7,6,5,4,3,2,1,0] (cJ [66]) l
theorem Jk{RW:Wy dh}{y:Rd}{sg:WA cl}{h:AL->Wz}(k:y.d.r=a.T)(n:OK u (eN a.wl a.VM a.XW RW a.msg a.tm))(m:∀j,OK u (HY (Pm u) (J6 y (cz RW a.msg)) sg j c e v L))
 (l:∀i j,OK u (fo (Pm u) (gX (J6 y (cz RW a.msg)) sg i j) y.ps (gw y.fA.time (i 10)) (gw y.fC.time (i 13)) c v e L h)):OK u (uU 28 (Pm u) a y.ps RW c v e L):=by
 have o:cq u [λf g b=>eN a.wl a.VM a.XW RW a.msg a.tm,λf g b=>HY (Pm u) (J6 y (cz RW a.msg)) sg (tk f 1) c e v L,λf g b=>Px (Pm u) a (gX (J6 y (cz RW a.msg)) sg (cH b 0) (cH b 1 0)) y.ps (gw y.fA.time (cH b 0 10)) (gw y.fC.time (cH b 0 13)) c v e L]:=⟨λf g b=>n,λf g b=>m _,λf g b=>Jj k (l _ _),cg⟩
 clear k n m l;exact bT 0x1160cf200f01010005301100112993 [[5],[7,8],[6,8,11,14,0,1,2,3,12,13]] [8,7,6,5,4,3,2,1,0] (cJ [3,5]) o (J:=[[.UO 0],[],[]])
def sH.Vn(a:sH):sH:={a with e:=false}
def sH.early(a:sH):sH:={a with e:=true}
theorem E2{RW:Wy dh}(f:OK u (uU 28 (Pm u) a.Vn A RW c v e L)):OK u (uU 27 (Pm u) a.Vn A RW c v e L):=
 bT 0x1113 [[0,1,2,3,4,5,6,7,8]] [8,7,6,5,4,3,2,1,0] (cJ [0,2]) ⟨λb g d=>f,cg⟩ (Y:=[λb g d=>uU 28 (Pm u) a.Vn A RW c v e L]) (J:=[[.UO 0]])
def wu(b:WC)(a:sH)(f:Wy cl)(RW:Wy dh)(d:Nat)(c:Wz)(g:Nat)(e:ui):Spec:=
 ⟨wt 27 a.x,281,some a.x.L,⟨BF b a.early f d c g e,[],λh _=>[gx b a.ks a.early.vv 15,dP (.bytes a.msg a.tm),j3,dP (.ref a.wl),cm a.XW a.VM,cp f a.Fp a.U5,ee d,dq c cZ g e,BE 998 28 (h 0)],nn,nn,nn,[⟨a.XW,RW⟩],nn⟩,λ_ _=>uj (.bool true)⟩
def TH:Nat:=0x112afa208f10d10d10d61ef11020120023170cf200f01010000fd0dd0110011201211103110300003003311
theorem qv{RW:Wy dh}(h:OK u (eN a.wl a.VM a.XW RW a.msg a.tm))(g:∀i,OK u (xz (cz RW a.msg) i c v e L)):OK u (wu (Pm u) a A RW c v e L):=
 bT TH [[15],[17,18]] [8,7,6,5,4,3,2,1,0] (cJ [13]) ⟨λb f d=>h,λb f d=>g _,cg⟩ (Y:=[λb f d=>eN a.wl a.VM a.XW RW a.msg a.tm,λb f d=>xz (cz RW a.msg) (tk b 1) c v e L]) (J:=[[.UO 0],[]])
theorem E3{RW:Wy dh}(h:OK u (eN a.wl a.VM a.XW RW a.msg a.tm))(g:∀i,OK u (EJ (cz RW a.msg) i c v e L)):OK u (wu (Pm u) a A RW c v e L):=
 bT TH [[15],[17,18]] [8,7,6,5,4,3,2,1,0] (cJ [13]) ⟨λb f d=>h,λb f d=>g _,cg⟩ (Y:=[λb f d=>eN a.wl a.VM a.XW RW a.msg a.tm,λb f d=>EJ (cz RW a.msg) (tk b 1) c v e L]) (J:=[[.UO 0],[]])
end
section
structure nZ where
 x:LC
 ks:AL
 V:Nat->Wz
 T:cl
 (tn pl U5:Nat)
 Fp:AL
 msg:cl
 tm:Nat
 ss:SS
 place:Int
 (t1 rl Vk:Nat)
 XS:ug
def nZ.vv(a:nZ):Nat->Wz:=λb=>match b with
 |1=>.bytes a.T a.tn
 |2=>.ref a.pl
 |8=>.ref a.rl
 |c=>a.V c
def gH(c:AL)(b d:Nat):AL:=λa=>match Nat.beq a b with
 |true=>d
 |false=>c a
def lS(b:Nat->Wz)(c:Nat)(d:Wz):Nat->Wz:=λa=>match Nat.beq a c with
 |true=>d
 |false=>b a
def n1(a:gi):Wz:=match a.data with
 | .cell (some b)=>b
 |_=>.none
def uV(g:WC)(a:nZ)(e:Wy cl)(b:Nat)(c:Wz)(f:Nat)(d:ui):Wy (Nat×gi):=[(a.x.cS,dP (.ref a.ss.st)),(a.x.cM,dP (.bytes a.msg a.tm)),(a.x.cO,j3),(a.x.cW,j3),(a.ss.st,a.ss.oo a.place a.t1),(a.ss.sc,cm a.ss.vs a.ss.Vc),(a.rl,cm a.XS a.Vk),(a.pl,cp e a.Fp a.U5),(393,ee b),(b,dq c cZ f d),(972,fm)]
def QN(a:Bool)(b:Nat):gi:=match a with
 |true=>j3
 |false=>dP (.ref b)
def uW(b:Bool)(a:Nat):gi:=match b with
 |true=>BE 998 28 a
 |false=>BE 1000 78 a
def jK(d:WC)(a:nZ)(h:Wy cl)(f:Nat)(e:Wz)(i:Nat)(g:ui)(c:Bool)(b:AL):uk:=[gx d (gH a.ks 14 (b 0)) (lS a.vv 14 (.bool c)) 15,dP (.ref a.ss.st),dP (.bytes a.msg a.tm),QN c (b 1),dP (.ref (b 2)),a.ss.oo (a.place+1) (b 3),cm a.ss.vs a.ss.Vc,cm a.XS a.Vk,cp h a.Fp a.U5,ee f,dq e cZ i g,uW c (b 4)]
def n2(b:WC)(a:nZ)(f:Wy cl)(h:Wy dh)(d:Nat)(c:Wz)(g:Nat)(e:ui)(j:Bool):Spec:=
 ⟨wt 26 a.x,282,some a.x.L,⟨⟨a.x.L,gx b a.ks a.vv 14,true⟩::pl (uV b a f d c g e),[],λi _=>jK b a f d c g e j i,nn,nn,nn,[⟨a.XS,h⟩],nn⟩,λ_ _=>uj (.bool true)⟩
def Wp(a:nZ)(f:Nat->ug)(g:Bool)(e:uk)(d:AL):sH:=let c:=e[0]?.getD default
 ⟨a.x,λb=>dN c b,λb=>cF c b,a.T,df (cF c 1),a.pl,a.U5,a.Fp,a.msg,df (n1 (e[1]?.getD default)),d 1,0,f (d 2),g⟩
def TJ:Nat:=0x110ff2020bf020cff09f1011111211001aa663
variable {b:Wy dh} {d:Nat->ug} {a:nZ}
theorem E4(k:∀g i h,OK u (mv a.ss a.place 10 c g i h))(m:∀o,OK u (iZ c a.rl a.pl a.Vk a.U5 a.XS b A a.Fp o d M true []))(l:∀j:sH,j.T=a.T->j.msg=a.msg->OK u (wu (Pm u) j A M e v f L)):OK u (n2 (Pm u) a A b e v f L true):=by
 have n:cq u [mv a.ss a.place 10 c,λg i h=>iZ c a.rl a.pl a.Vk a.U5 a.XS b A a.Fp (tk g 2) d M true [],λg i h=>wu (Pm u) (Wp a d true i (cH h 0)) A M e v f L]:=⟨k,λg i h=>m _,λg i h=>l _ rfl rfl,cg⟩
 exact bT TJ [[5,6],[7,8],[5,7,8,9,4,13,14,15,16]] [11,10,9,8,7,6,5,4,3,2,1,0] (cJ [16,0,6,3,20]) n (J:=[[],[.UO 0],[.UO 0]])
theorem E6(k:∀g i h,OK u (mv a.ss a.place 10 c g i h))(m:∀o,OK u (iZ c a.rl a.pl a.Vk a.U5 a.XS b A a.Fp o d M false []))(l:∀j:sH,j.T=a.T->j.msg=a.msg->OK u (uU 27 (Pm u) j.Vn A M e v f L)):OK u (n2 (Pm u) a A b e v f L false):=by
 have n:cq u [mv a.ss a.place 10 c,λg i h=>iZ c a.rl a.pl a.Vk a.U5 a.XS b A a.Fp (tk g 2) d M false [],λg i h=>uU 27 (Pm u) (Wp a d false i (cH h 0)).Vn A M e v f L]:=⟨k,λg i h=>m _,λg i h=>l _ rfl rfl,cg⟩
 exact bT TJ [[5,6],[7,8],[5,7,8,9,4,13,14,15,16]] [11,10,9,8,7,6,5,4,3,2,1,0] (cJ [16,20,6,3,28]) n (J:=[[],[.UO 0],[.UO 0]])
end
section
open PySem.Calls PySem.SeqAt
section
variable {P:WJ} {w:WG} {K:Nat->WA gi}
theorem Sl(b:Heap)(a:Addr)(c d:gi->gi):(b.update a c).update a d=b.update a (λe=>d (c e)):=by
 obtain⟨i⟩:=b;simp only[Heap.update];congr 1;apply Array.ext
 ·simp
 ·intro h f g;simp[Array.getElem_modify];split<;>rfl
def Py(a:ug):Nat:=if a.size==0 then 0 else 1
def Jl(S c:Nat)(a:ug)(b:Nat):Spec:=FR "list.__init__" [.ref S,.ref c] [(S,cm #[] 0),(c,cm a b)] [cm a (Py a),cm a b] .none
def E7(b:ug)(a:gi):gi:=Obj.mapSeq (· ++b) (Obj.mapSeq (λ_=>(#[]:ug)) a)
theorem qw(a:ug):E7 a (cm #[] 0)=cm a (Py a):=by unfold E7 cm;show(⟨_,_,.seq (#[]++a) (if(#[]++a).size==(#[]:ug).size then(if(#[]:ug).size==(#[]:ug).size then 0 else 1)else _),_⟩:gi)=_;rw[Array.empty_append];rfl
theorem E8{S:Nat}(q:H.size<=1000000):ct P w K (Jl S c H a):=by
 intro i R d v t s k b l;have e:d7 K (kJ [(S,cm #[] 0),(c,cm H a)]) (cC i) d:=⟨b.pre,b.nd,b.UR,b.U6,b.UX⟩;have m:=el e (S,cm #[] 0) (.head _);have n:=el e (c,cm H a) (.tail _ (.head _));have p:c≠S:=λg=>by
  have:=b.nd;simp[Jl,FR,s2,addrs,pl]at this;exact this g.symm
 have r:H.size<=sizeLine:=Nat.le_trans q (by decide);refine dY (by decide+kernel) F.entry_list_init (wpAny_list_init_seq S c (.inl rfl) p m n rfl rfl ?_ r);have g:=Sl d.heap S (Obj.mapSeq (λ_=>(#[]:ug))) (Obj.mapSeq (· ++H))
 rw[g];refine l (λ_=>0) (λ_=> #[]) _ ?_
 have j:=gA (al:=λ_=>0) (sl:=λ_=> #[]) (s1:={d with toks:=d.toks}) e k ⟨d.toks,rfl⟩
 have h:=ix (E':=s2 [(S,cm #[] 0),(c,cm H a)] [E7 H (cm #[] 0),cm H a]) (o:=cm #[] 0) (p0:=cm #[] 0) (Pr:=pl [(c,cm H a)]) (ps:=[cm H a]) (f:=E7 H) j e rfl rfl (by rw[qw];rfl) (by rw[qw];exact g0 _ _ _ rfl) rfl rfl rfl rfl rfl rfl rfl rfl;rw[qw]at h;exact h
end
def Pz(d:Wy cl)(b:AL):U:=λa c e=>Jl (ad a 0) (ad a 1) ⟨d3 d b⟩ (eJ c 1)
theorem E9(d:A.length<=1000):∀a c b,OK u (Pz A y a c b):=λa c b=>E8 (by show(d3 A y).length<=_;rw[d8];omega)
end
section
structure MD where
 (pl U5:Nat)
 Fp:AL
 (p1 Vf p2 Vd:Nat)
 t:AL
 cX:Nat
def GB(a:MD)(b:SD):Wy (Nat×gi):=[(a.pl,cp b.ps a.Fp a.U5),(a.p1,dJ b.i1 b.j1 a.Vf (a.t 0) (a.t 1)),(a.Vf,gU b.z1 (a.t 2) (a.t 3)),(a.p2,dJ b.i2 b.j2 a.Vd (a.t 4) (a.t 5)),(a.Vd,gU b.z2 (a.t 6) (a.t 7)),(693,fG a.cX)]
def QO(a:MD)(b:SD)(c:cl):Spec:=
 ⟨ul 970 [.bytes b.tree (a.t 8),.ref a.pl,.ref a.p1,.ref a.p2,iX b.en (a.t 9),iX b.sg (a.t 10),.bytes b.body (a.t 11)],262,none,UM (GB a b) (λ_=>[cp b.ps a.Fp a.U5,dJ b.i1 b.j1 a.Vf (a.t 0) (a.t 1),gU b.z1 (a.t 2) (a.t 3),dJ b.i2 b.j2 a.Vd (a.t 4) (a.t 5),gU b.z2 (a.t 6) (a.t 7),fG a.cX]) (λ_=>[]),λd _=>uj (.bytes c (d 0))⟩
def QP(b:SD)(g c:Wz)(f:Bool)(e d:Nat)(a:AL):CM:=⟨g,c,f,.ref e,iX b.en (a 0),iX b.sg (a 1),.ref d,.bool false,.bool false,.bytes b.tree (a 2),.bytes b.body (a 3),.bytes (dv b.i1) (a 4),.int (dt.getD b.j1.val 0) (a 5),.int (cL b.z1).2.1 (a 6),.bytes (dv b.i2) (a 7),.int (dt.getD b.j2.val 0) (a 8),.int (cL b.z2).2.1 (a 9)⟩
def Fa(h:WC)(e:SA)(f:SD)(m l:Wz)(i:Nat)(j:Wy Ev)(k:cl):Spec:=
 ⟨ul 256 [.ref e.c],230,none,⟨pl ([(e.c,eu 888 e.d),(e.d,o9 1 h (QP f m l true e.lp e.le e.t) e.ks),(e.lp,cp f.ps e.F e.ep),(e.le,cm (ei f.xs.length e.a e.b) e.VC)]++[(693,fG i)]),[],λg _=>[eu 888 e.d,o9 1 h (QP f .none (.ref (g 1)) false e.lp e.le e.t) e.ks,cp f.ps e.F e.ep,cm (ei f.xs.length e.a e.b) e.VC]++[fG i],nn,λg _=>[⟨g 1,cp (h9 j f.body) (jH 2 QD g) (o3 f.body 2 j),false⟩],nn,[e.UO f],nn⟩,λg _=>uj (.bytes k (g 0))⟩
variable {a:Wy Ev} {v:SD}
theorem Jm{d:WC}{b:SA}{c:Wz}(h:(cL v.z1).2.2=false)(i:(cL v.z2).2.2=false):Fa d b v c x e a k=Es d 1 b v c x e a k:=by
 have g:∀c x f,QP v c x f b.lp b.le b.t=b.xx v c x f:=λc x f=>by
  unfold QP SA.xx Iz;rw[h,i]
 unfold Fa Es SA.cells SA.objs;simp only[g]
def v0(a:SD):SD:={a with xs:=[]}
def v1(a:SD)(b c:WA cl):SD:=⟨a.i1,a.j1,a.z1,a.i2,a.j2,a.z2,a.tree,a.ps,b,[],c,a.body⟩
def Sm(a:MD)(c:Code)(b:uk):SA:=let e:=b[1]?.getD default
 ⟨ad c 0,SY b 0,hu (cF e 4),hu (cF e 7),eJ b 2,eJ b 3,0,0,a.Fp,λd=>dN e d,λd=>match d with|0=>a.t 9|1=>a.t 10|2=>a.t 8|3=>a.t 11|4=>a.t 0|5=>a.t 1|6=>a.t 3|7=>a.t 4|8=>a.t 5|_=>a.t 7⟩
def TL:Nat:=0x1000a00f320f555540cf2ddff63f001f18f218f12325f201202118f20333006325f112740cf301303fb0f00f19f219f114372f401404165f40555e08f8aaa01a1abbb01b1b0403f10f09f809f1227f2124fc40cf801808f56f001f18f218f1f18f90aaa0dd40cf901909f56f001f18f218f1f18fa0bbb0ed40cfa01a0afb0f001f18f218f1b372fb01b0b165fb0ccce08f0fd13d13d13d0113d113d14d14d14d0114d114d0403f10f09f809f1227f2124f13d40cf0fd010fd00fdf56f001f18f218f1f18f10d011d11d11d14d40cf10d0110d010df56f001f18f218f1f18f11d012d12d12d15d40cf11d0111d011df57f001f18f218f1f19f12d013d13d13d16d16d40cf12d0112d012df57f001f18f218f1f19f13d014d14d14d17d17d40cf13d0113d013df57f001f18f218f1f19f14d015d15d15d18d18d40cf14d0114d014d317f0120ff1111001f18f218f120cf002f115d511f16d16d16d19d805f15d100f015d16d01
theorem PA{q:MD}(e:(cL v.z1).2.2=false)(f:(cL v.z2).2.2=false)(c:mr (v0 v) a)(g:s3 (h9 a v.body) k):OK u (QO q (v0 v) k):=by
 have b:cq u [tY (Pm u),Qx,Pz v.ps q.Fp,λd h l=>Fa (Pm u) (Sm q d h) (v1 v v.en v.sg) .none .none q.cX a k]:=⟨jF,uy,E9 (Nat.le_trans c.ps (by decide)),λd h l=>by
  show OK u (Fa _ _ (v0 v) _ _ _ _ _);rw[Jm (v:=v0 v) e f];exact A0 c (by decide) g,cg⟩
 clear e f c g;show OK u (QO q (v1 v v.en v.sg) k);generalize v.en=j,v.sg=i at*;cases j with
 |none=>cases i with
  |none=>exact oT TL [[],[],[0,7],[20,21,18,23,30]] [5,4,3,2,1,0] (cJ [809]) b (J:=[[],[],[],[.cells []]])
  |some m=>exact oT TL [[],[],[0,7],[20,21,18,23,30]] [5,4,3,2,1,0] (cJ [809]) b (J:=[[],[],[],[.cells []]])
 |some n=>cases i with
  |none=>exact oT TL [[],[],[0,7],[20,21,18,23,30]] [5,4,3,2,1,0] (cJ [809]) b (J:=[[],[],[],[.cells []]])
  |some m=>exact oT TL [[],[],[0,7],[20,21,18,23,30]] [5,4,3,2,1,0] (cJ [809]) b (J:=[[],[],[],[.cells []]])
end
variable {G:Bool}
section
structure fD where
 q:nZ
 (ml VF a b p1 Vf p2 Vd:Nat)
 t:AL
 (te ts tw cX:Nat)
 W:cl
def fD.vv(a:fD)(f:SD)(b e:WA cl):Nat->Wz:=λc=>match c with
 |1=>.bytes f.tree a.q.tn
 |2=>.ref a.q.pl
 |3=>.ref a.p1
 |4=>.ref a.p2
 |5=>iX b a.te
 |6=>.ref a.ml
 |7=>iX e a.ts
 |8=>.ref a.q.rl
 |10=>.bytes a.W a.tw
 |d=>a.q.V d
def fE(a:Fin 6)(b:Bool)(c d:Nat):gi:=eE #[.bytes (cL a).1 c,.int (cL a).2.1 d,.bool b]
def fD.q2(a:fD)(b:SD):nZ:=⟨a.q.x,a.q.ks,a.q.V,b.tree,a.q.tn,a.q.pl,a.q.U5,a.q.Fp,b.body,a.q.tm,a.q.ss,a.q.place,a.q.t1,a.q.rl,a.q.Vk,a.q.XS⟩
def xZ(c:fD)(d:SD)(e:Nat)(f g:Bool):Wy (Nat×gi):=[(c.ml,cm (ei e c.a c.b) c.VF),(c.p1,dJ d.i1 d.j1 c.Vf (c.t 0) (c.t 1)),(c.Vf,fE d.z1 f (c.t 2) (c.t 3)),(c.p2,dJ d.i2 d.j2 c.Vd (c.t 4) (c.t 5)),(c.Vd,fE d.z2 g (c.t 6) (c.t 7)),(693,fG c.cX)]
def Fc(c:WC)(b:fD)(a:SD)(h j:WA cl)(g:Nat)(f:Wz)(k:Nat)(i:ui)(e:Bool)(d:AL):uk:=gx c (gH b.q.ks 14 (d 0)) (lS (b.vv a h j) 14 (.bool e)) 15::(jK c (b.q2 a) a.ps g f k i e d).tail
def qx(c:WC)(a:fD)(b:SD)(f i:WA cl)(h:Nat)(k l:Bool)(m:Wy dh)(e:Nat)(d:Wz)(j:Nat)(g:ui)(o:Bool):Spec:=
 ⟨wt 25 a.q.x,283,some a.q.x.L,⟨⟨a.q.x.L,gx c a.q.ks (a.vv b f i) 14,true⟩::pl (uV c (a.q2 b) b.ps e d j g++xZ a b h k l),[],λn _=>Fc c a b f i e d j g o n++(xZ a b h k l).map (·.2),nn,nn,nn,[⟨a.q.XS,m⟩],nn⟩,λ_ _=>uj (.bool true)⟩
def Wu(a:fD)(e:SD)(d:uk):nZ:=let c:=d[0]?.getD default
 ⟨a.q.x,λb=>dN c b,λb=>cF c b,e.tree,df (cF c 1),a.q.pl,a.q.U5,a.q.Fp,e.body,df (n1 (d[2]?.getD default)),a.q.ss,a.q.place,a.q.t1,a.q.rl,a.q.Vk,a.q.XS⟩
def Fd(h:WG)(i:fD)(a:SD)(j m:WA cl)(k:Nat)(n o:Bool)(b:Wy dh)(d:Nat)(c:Wz)(g:Nat)(f:ui)(e:Bool):JR:=
 (qx h.params i a j m k n o b d c g f e,[λp l q=>n2 h.params (Wu i a l) a.ps b d c g f e],[])
def PB(j:WG)(k:fD)(i:SD)(e g:WA cl)(l m:Bool)(a:Wy dh)(c:Nat)(b:Wz)(h:Nat)(f:ui)(d:Bool):JR:=Fd j k i e g 1 l m a c b h f d
def PD(j:WG)(k:fD)(i:SD)(e g:WA cl)(l m:Bool)(a:Wy dh)(c:Nat)(b:Wz)(h:Nat)(f:ui)(d:Bool):JR:=Fd j k i e g 2 l m a c b h f d
def PE(j:WG)(k:fD)(i:SD)(e g:WA cl)(l:Bool)(a:Wy dh)(c:Nat)(b:Wz)(h:Nat)(f:ui)(d:Bool):JR:=Fd j k i e g 0 true l a c b h f d
def PF(j:WG)(k:fD)(i:SD)(e g:WA cl)(a:Wy dh)(c:Nat)(b:Wz)(h:Nat)(f:ui)(d:Bool):JR:=Fd j k i e g 0 false true a c b h f d
def TM:Nat:=0x1110dd002f010dd10dd3
variable {f:Bool} {e:WA cl} {a:SD} {b:fD}
theorem Fe(h:∀g:nZ,g.T=a.tree->g.msg=a.body->g.ss=b.q.ss->g.place=b.q.place->g.XS=b.q.XS->OK u (n2 (Pm u) g a.ps M c v d L D)):OK u (qx (Pm u) b a e V 1 f G M c v d L D):=by
 have i:cq u (PB (W2 u) b a e V f G M c v d L D).2.1:=⟨λj l k=>h _ rfl rfl rfl rfl rfl,cg⟩
 exact bT TM [[0,1,2,3,4,5,6,7,8,9,10,11]] [17,16,15,14,13,12,11,10,9,8,7,6,5,4,3,2,1,0] (cJ [2,4,6,8,10]) i (J:=[[.UO 0]])
theorem Ff(h:∀g:nZ,g.T=a.tree->g.msg=a.body->g.ss=b.q.ss->g.place=b.q.place->g.XS=b.q.XS->OK u (n2 (Pm u) g a.ps M c v d L D)):OK u (qx (Pm u) b a e V 2 f G M c v d L D):=by
 have i:cq u (PD (W2 u) b a e V f G M c v d L D).2.1:=⟨λj l k=>h _ rfl rfl rfl rfl rfl,cg⟩
 exact bT TM [[0,1,2,3,4,5,6,7,8,9,10,11]] [17,16,15,14,13,12,11,10,9,8,7,6,5,4,3,2,1,0] (cJ [2,4,6,8,10]) i (J:=[[.UO 0]])
theorem Fg{z1 G:Bool}(g:∀f:nZ,f.T=a.tree->f.msg=a.body->f.ss=b.q.ss->f.place=b.q.place->f.XS=b.q.XS->OK u (n2 (Pm u) f a.ps M c v d L D)):OK u (qx (Pm u) b a e V 0 true G M c v d L D):=by
 have h:cq u (PE (W2 u) b a e V G M c v d L D).2.1:=⟨λi k j=>g _ rfl rfl rfl rfl rfl,cg⟩
 exact bT 0x1110dd002f010dd10dd10ed0ed0ed010ed10ed0fd0fd0fd010fd10fd013 [[0,1,2,3,4,5,6,7,8,9,10,11]] [17,16,15,14,13,12,11,10,9,8,7,6,5,4,3,2,1,0] (cJ [4,6,8,10,12]) h (J:=[[.UO 0]])
theorem Fh{z1 z2:Bool}(g:∀f:nZ,f.T=a.tree->f.msg=a.body->f.ss=b.q.ss->f.place=b.q.place->f.XS=b.q.XS->OK u (n2 (Pm u) f a.ps M c v d L D)):OK u (qx (Pm u) b a e V 0 false true M c v d L D):=by
 have h:cq u (PF (W2 u) b a e V M c v d L D).2.1:=⟨λi k j=>g _ rfl rfl rfl rfl rfl,cg⟩
 exact bT 0x1110dd002f010dd10dd10ed0ed0ed010ed10ed0fd0fd0fd010fd10fd01110d10d10d0110d110d11d11d11d0111d111d013 [[0,1,2,3,4,5,6,7,8,9,10,11]] [17,16,15,14,13,12,11,10,9,8,7,6,5,4,3,2,1,0] (cJ [6,8,10,12,14]) h (J:=[[.UO 0]])
def Fi(a:MD)(b:SD)(c:cl):Spec:=
 ⟨ul 970 [.bytes b.tree (a.t 8),.ref a.pl,.ref a.p1,.ref a.p2,iX b.en (a.t 9),iX b.sg (a.t 10),.bytes b.body (a.t 11)],262,none,UM [(a.pl,cp b.ps a.Fp a.U5),(a.p1,dJ b.i1 b.j1 a.Vf (a.t 0) (a.t 1)),(a.Vf,fE b.z1 false (a.t 2) (a.t 3)),(a.p2,dJ b.i2 b.j2 a.Vd (a.t 4) (a.t 5)),(a.Vd,fE b.z2 false (a.t 6) (a.t 7)),(693,fG a.cX)] (λ_=>[cp b.ps a.Fp a.U5,dJ b.i1 b.j1 a.Vf (a.t 0) (a.t 1),fE b.z1 false (a.t 2) (a.t 3),dJ b.i2 b.j2 a.Vd (a.t 4) (a.t 5),fE b.z2 false (a.t 6) (a.t 7),fG a.cX]) (λ_=>[]),λd _=>uj (.bytes c (d 0))⟩
theorem Jn{b:MD}(h:(cL a.z1).2.2=false)(i:(cL a.z2).2.2=false):QO b a k=Fi b a k:=by
 have f:∀(c:Fin 6) d e,(cL c).2.2=false->gU c d e=fE c false d e:=λc d e g=>by
  unfold gU fE;rw[g]
 unfold QO Fi GB;simp only[f _ _ _ h,f _ _ _ i]
def fD.md(a:fD):MD:=⟨a.q.pl,a.q.U5,a.q.Fp,a.p1,a.Vf,a.p2,a.Vd,λb=>match b with|0=>a.t 0|1=>a.t 1|2=>a.t 2|3=>a.t 3|4=>a.t 4|5=>a.t 5|6=>a.t 6|7=>a.t 7|8=>a.q.tn|9=>a.te|10=>a.ts|_=>a.q.tm,a.cX⟩
def uX(b c:cl):U:=λa e d=>fh "bytes.__ne__" [.bytes b (tk a 0),.bytes c (tk a 1)] [] λ_=>.bool false
def TO:Nat:=0x1110dd002f010dd10dd10ed0ed0ed010ed10ed0fd0fd0fd010fd10fd01110d10d10d0110d110d11d11d11d0111d111d010100f130110123
theorem Fj(k:∀f:nZ,f.T=a.tree->f.msg=a.body->f.ss=b.q.ss->f.place=b.q.place->f.XS=b.q.XS->OK u (n2 (Pm u) f a.ps M c v d L D))(l:OK u (Fi b.md (v1 a e V) b.W)):OK u (qx (Pm u) b a e V 0 false false M c v d L D):=by
 have j:cq u [λh g i=>Fi b.md (v1 a e V) b.W,uX b.W b.W,λh g i=>n2 (Pm u) (Wu b a g) a.ps M c v d L D]:=⟨λh g i=>l,λh g i=>kd (by simp),λh g i=>k _ rfl rfl rfl rfl rfl,cg⟩
 clear k l;cases e with
 |none=>cases V with
  |none=>exact bT TO [[8,13,14,15,16,17],[],[0,1,2,3,4,5,6,7,8,9,10,11]] [17,16,15,14,13,12,11,10,9,8,7,6,5,4,3,2,1,0] (cJ [9,17,25,33,41]) j (J:=[[],[],[.UO 0]])
  |some m=>exact bT TO [[8,13,14,15,16,17],[],[0,1,2,3,4,5,6,7,8,9,10,11]] [17,16,15,14,13,12,11,10,9,8,7,6,5,4,3,2,1,0] (cJ [9,17,25,33,41]) j (J:=[[],[],[.UO 0]])
 |some n=>cases V with
  |none=>exact bT TO [[8,13,14,15,16,17],[],[0,1,2,3,4,5,6,7,8,9,10,11]] [17,16,15,14,13,12,11,10,9,8,7,6,5,4,3,2,1,0] (cJ [9,17,25,33,41]) j (J:=[[],[],[.UO 0]])
  |some m=>exact bT TO [[8,13,14,15,16,17],[],[0,1,2,3,4,5,6,7,8,9,10,11]] [17,16,15,14,13,12,11,10,9,8,7,6,5,4,3,2,1,0] (cJ [9,17,25,33,41]) j (J:=[[],[],[.UO 0]])
end
def hO:cl:= #[111,116,104,101,114]
def vO(a:SD):SD:=⟨a.i1,a.j1,a.z1,a.i2,a.j2,a.z2,a.tree,a.ps,a.en,a.xs,a.sg,hO⟩
structure sI where
 y:fD
 (rc rd Wb Vv:Nat)
 bs:Wy cl
 Fb:AL
 rx:CM
 rks:AL
 tp:SA
 tch:Wz
def sI.DD(a:sI)(b:WC):gi:=o9 0 b {a.rx with U8:=false,U4:= .ref a.Wb} a.rks
def sI.vv(b:sI)(a:SD):Nat->Wz:=λd=>match d with
 |11=>.ref b.rc
 |13=>.ref b.tp.c
 |e=>b.y.vv a a.en a.sg e
def PH(b:WC)(a:sI)(c:SD):Wy (Nat×gi):=[(a.rc,eu 888 a.rd),(a.rd,a.DD b),(a.Wb,cp a.bs a.Fb a.Vv)]
def Fk(c:WC)(a:sI)(b:SD)(i:Nat)(k l:Bool)(m:Wy dh)(n:Wy Ev)(f:Nat)(e:Wz)(j:Nat)(h:ui)(g:Bool):Spec:=
 ⟨wt 24 a.y.q.x,284,some a.y.q.x.L,⟨⟨a.y.q.x.L,gx c a.y.q.ks (a.vv b) 14,true⟩::pl (uV c (a.y.q2 b) b.ps f e j h++xZ a.y b i k l++PH c a b++a.tp.cells c (vO b) 0 .none a.tch true),[],λd _=>(gx c (gH a.y.q.ks 14 (d 0)) (lS (a.vv b) 14 (.bool g)) 15::(jK c (a.y.q2 b) b.ps f e j h g d).tail)++(xZ a.y b i k l).map (·.2)++[eu 888 a.rd,a.DD c,cp a.bs a.Fb a.Vv]++a.tp.objs c (vO b) 0 .none (.ref (d 5)) false,nn,nn,nn,[⟨a.y.q.XS,m⟩,a.tp.UO (vO b)],nn⟩,λ_ _=>uj (.bool true)⟩
def TR(c:sI)(g:SD)(f:uk):fD:=let e:=f[0]?.getD default
 ⟨⟨c.y.q.x,λd=>dN e d,λd=>cF e d,g.tree,df (cF e 1),c.y.q.pl,c.y.q.U5,c.y.q.Fp,g.body,df (n1 (f[2]?.getD default)),c.y.q.ss,c.y.q.place,c.y.q.t1,c.y.q.rl,c.y.q.Vk,c.y.q.XS⟩,c.y.ml,c.y.VF,c.y.a,c.y.b,c.y.p1,c.y.Vf,c.y.p2,c.y.Vd,c.y.t,c.y.te,c.y.ts,c.y.tw,c.y.cX,c.y.W⟩
theorem Jo{a:sI}{b:SD}{g:Bool}{c:Wy Ev}(m:s3 a.bs a.y.W)(n:mr (vO b) c)(o:s3 (h9 c hO) (cz M hO))(p:∀s,OK u (eN a.y.q.rl a.y.q.Vk a.y.q.XS M hO s))
 (l:∀k:fD,k.q.ss=a.y.q.ss->k.q.place=a.y.q.place->k.q.XS=a.y.q.XS->k.W=a.y.W->OK u (qx (Pm u) k b b.en b.sg e G g M d v f L D)):OK u (Fk (Pm u) a b e G g M c d v f L D):=by
 have r:cq u [λh i j=>OI (Pm u) a.rc a.rd a.Wb a.Vv (a.DD (Pm u)) a.bs a.Fb a.y.W,uX a.y.W a.y.W,λh i j=>Es (Pm u) 0 a.tp (vO b) .none a.tch a.y.cX c (cz M hO),λh i j=>eN a.y.q.rl a.y.q.Vk a.y.q.XS M hO (tk h 1),uX (cz M hO) (cz M hO),Pu b.ps (λ_=>a.tp.F) (λ_=>a.y.q.Fp),λh i j=>qx (Pm u) (TR a b i) b b.en b.sg e G g M d v f L D]:=⟨λh i j=>wa m (by decide),λh i j=>kd (by simp),λh i j=>A0 n (by decide) o,λh i j=>p _,λh i j=>kd (by simp),E0,λh i j=>l _ rfl rfl rfl rfl,cg⟩
 clear m n o p l;exact jT 0x101805f13d21cf13d14d01101201805f16d213f16d17d01020101212307f117d600f010110df1101407f0118d0000018d18d019d319da3 [[18,19,20],[],[21,22,23,24,17],[8],[],[25,10],[2,3,4,5,6,7,8,9,10,11,12,13,14,15,16,17,18,19]] [24,23,22,21,20,19,18,17,16,15,14,13,12,11,10,9,8,7,6,5,4,3,2,1,0] (cJ [231,359,487,615,743,11]) r (J:=[[],[],[.UO 1],[.UO 0],[],[],[.UO 0]])
def uY(b:Fin 3)(c:Fin 4)(a:Fin 6):yf:=⟨dv b,some (dt.getD c.val 0),some (cL a).2.1,(cL a).2.2⟩
def GC(a:SD)(c:cl)(b:eY)(d:Wy dm):Rd:=⟨c,⟨b.line,b.n,b.rb,b.UP,b.np,b.lp,a.tree⟩,d,a.body,dk a.i1 a.j1 a.z1,dk a.i2 a.j2 a.z2,a.ps,a.en,a.xs,uY a.i1 a.j1 a.z1,uY a.i2 a.j2 a.z2⟩
def Fl(c:WC)(a:sI)(b:SD)(i:Nat)(k l:Bool)(m:Wy dh)(f:Nat)(e:Wz)(j:Nat)(h:ui)(g:Bool):Spec:=
 ⟨wt 21 a.y.q.x,285,some a.y.q.x.L,⟨⟨a.y.q.x.L,gx c a.y.q.ks (a.vv b) 13,true⟩::pl (uV c (a.y.q2 b) b.ps f e j h++xZ a.y b i k l++PH c a b),[],λd _=>(gx c (gH (gH a.y.q.ks 13 (d 0)) 14 (d 2)) (lS (lS (a.vv b) 13 (.ref (d 1))) 14 (.bool g)) 15::(jK c (a.y.q2 b) b.ps f e j h g (cn 2 d)).tail)++(xZ a.y b i k l).map (·.2)++[eu 888 a.rd,a.DD c,cp a.bs a.Fb a.Vv],nn,nn,nn,[⟨a.y.q.XS,m⟩],nn⟩,λ_ _=>uj (.bool true)⟩
def Un(b:sI)(f:SD)(e:uk)(a:AL):sI:=let d:=e[22]?.getD default
 ⟨TR b f e,b.rc,b.rd,b.Wb,b.Vv,b.bs,b.Fb,b.rx,b.rks,⟨a 0,a 1,a 3,a 6,f.ps.length,a 20,a 18,a 19,zq (a 15) (a 16) (a 17),λc=>dN d c,λc=>match c with|0=>a 4|1=>a 5|2=>a 7|3=>df (cF d 11)|4=>a 9|5=>a 10|6=>a 11|7=>a 12|8=>a 13|_=>a 14⟩,.ref (a 2)⟩
theorem Jp{a:sI}{b:SD}{g:Bool}{d:eY}{ds:Wy dm}{Vp:Wy Ev}(m:OK u (R4 (Pm u) a.rc a.rd a.Wb a.Vv (a.DD (Pm u)) a.bs a.Fb (GC b a.y.W d ds) b.sg c e v L))
 (l:∀h:sI,h.y.q.ss=a.y.q.ss->h.y.q.place=a.y.q.place->h.y.q.XS=a.y.q.XS->h.y.W=a.y.W->h.bs=a.bs->OK u (Fk (Pm u) h b f G g M Vp c v e L D)):OK u (Fl (Pm u) a b f G g M c v e L D):=by
 have n:cq u [λk j i=>R4 (Pm u) a.rc a.rd a.Wb a.Vv (a.DD (Pm u)) a.bs a.Fb (GC b a.y.W d ds) b.sg c e v L,uX b.body b.body,λk j i=>Fk (Pm u) (Un a b j (cH i 1)) b f G g M Vp c v e L D]:=⟨λk j i=>m,λk j i=>kd (by simp),λk j i=>l _ rfl rfl rfl rfl rfl,cg⟩
 clear m l;exact bT 0x111805f13d20ef13d14d016616307f1247f939f13cf01617f0000220390121740cf201202317f0120ff1111011f19f219f0120cf0130130300000304443 [[18,19,20,9,10],[],[7,8,9,10,11,12,13,14,15,16,17,18,19,20,21,22,23,24,25,26,27,2,3,5,6]] [20,19,18,17,16,15,14,13,12,11,10,9,8,7,6,5,4,3,2,1,0] (cJ [1,0,51,59,67,75,83]) n (J:=[[],[],[.UO 1,.UO 0]])
structure Jq where
 y:fD
 rp:SA
 ch:Wz
 Ba:cl
 tb:Nat
def Jq.vv(a:Jq)(b:SD):Nat->Wz:=λd=>match d with
 |9=>.bytes a.Ba a.tb
 |11=>.ref a.rp.c
 |e=>a.y.vv b b.en b.sg e
def x0(c:fD)(d:SD)(e:Nat)(f g:Bool):Wy (Nat×gi):=[(c.ml,cm (ei e c.a c.b) c.VF),(c.p1,dJ d.i1 d.j1 c.Vf (c.t 0) (c.t 1)),(c.Vf,fE d.z1 f (c.t 2) (c.t 3)),(c.p2,dJ d.i2 d.j2 c.Vd (c.t 4) (c.t 5)),(c.Vd,fE d.z2 g (c.t 6) (c.t 7)),(693,fm)]
def GD(e:SA)(g:Nat):SA:=⟨e.c,e.d,e.lp,e.le,e.ep,e.VC,e.a,e.b,e.F,e.ks,λf=>match f with|0=>e.t 0|1=>e.t 1|2=>e.t 2|3=>g|4=>e.t 4|5=>e.t 5|6=>e.t 6|7=>e.t 7|8=>e.t 8|_=>e.t 9⟩
def Fm(d:WC)(a:Jq)(c:SD)(j:Nat)(l m:Bool)(n:Wy dh)(g:Nat)(f:Wz)(k:Nat)(i:ui)(h:Bool):Spec:=
 ⟨wt 19 a.y.q.x,286,some a.y.q.x.L,⟨⟨a.y.q.x.L,gx d a.y.q.ks (a.vv c) 13,true⟩::pl (uV d (a.y.q2 c) c.ps g f k i++x0 a.y c j l m++a.rp.cells d c 0 .none a.ch false),[],λe _=>(gx d (gH (gH a.y.q.ks 13 (e 0)) 14 (e 2)) (lS (lS (a.vv c) 13 (.ref (e 1))) 14 (.bool h)) 15::(jK d (a.y.q2 c) c.ps g f k i h (cn 2 e)).tail)++[cm (ei j a.y.a a.y.b) a.y.VF,dJ c.i1 c.j1 a.y.Vf (a.y.t 0) (a.y.t 1),fE c.z1 l (a.y.t 2) (a.y.t 3),dJ c.i2 c.j2 a.y.Vd (a.y.t 4) (a.y.t 5),fE c.z2 m (a.y.t 6) (a.y.t 7),fG (e 7)]++(GD a.rp a.y.q.tm).objs d c 0 .none (.ref (e 8)) false,nn,nn,nn,[⟨a.y.q.XS,n⟩,a.rp.UO c],nn⟩,λ_ _=>uj (.bool true)⟩
def Sn(c:WC)(b:SA)(d:SD)(a:Nat):gi:=o9 0 c {b.xx d .none (.ref a) false with U8:=false,U4:= .ref a} b.ks
def So(a:SA)(b:SD)(f:Wy Ev)(e:AL):CQ:=⟨a.c,a.d,e 1,a.lp,o3 b.body 2 f,a.ep,h9 f b.body,jH 10 JX e,a.F,a.ks,λg=>match g with|0=>a.t 2|1=>a.t 4|2=>a.t 7|3=>a.t 5|_=>a.t 8,a.xx b .none (.ref (e 1)) false,b.tree,dv b.i1,dv b.i2⟩
def Uo(e:Jq)(f:SD)(j:Wy Ev)(k:uk)(g:AL):sI:=let i:=k[0]?.getD default
 ⟨⟨⟨e.y.q.x,λh=>dN i h,λh=>cF i h,f.tree,df (cF i 1),e.y.q.pl,e.y.q.U5,e.y.q.Fp,f.body,df (n1 (k[2]?.getD default)),e.y.q.ss,e.y.q.place,e.y.q.t1,e.y.q.rl,e.y.q.Vk,e.y.q.XS⟩,e.y.ml,e.y.VF,e.y.a,e.y.b,e.y.p1,e.y.Vf,e.y.p2,e.y.Vd,e.y.t,e.y.te,e.y.ts,e.y.tw,g 2,e.y.W⟩,e.rp.c,e.rp.d,g 1,o3 f.body 2 j,h9 j f.body,jH 10 JX g,(GD e.rp e.y.q.tm).xx f .none (.ref (g 1)) false,e.rp.ks,⟨0,0,0,0,0,0,0,0,λ_=>0,λ_=>0,λ_=>0⟩,.none⟩
theorem Jr{a:Jq}{b:SD}{h:Bool}{c:Wy Ev}{ze:WE}(p:mr b c)(n:s3 (h9 c b.body) a.y.W)(q:k7 a.y.W a.Ba ze)
 (r:∀m:CQ,m.bs=h9 c b.body->m.T=b.tree->m.A=dv b.i1->m.C=dv b.i2->OK u (ED (Pm u) m b.ps (dt.getD b.j1.val 0) (dt.getD b.j2.val 0) e v f L))
 (o:∀l:sI,l.y.q.ss=a.y.q.ss->l.y.q.place=a.y.q.place->l.y.q.XS=a.y.q.XS->l.y.W=a.y.W->l.bs=h9 c b.body->OK u (Fl (Pm u) l b g G h M e v f L D)):OK u (Fm (Pm u) a b g G h M e v f L D):=by
 have s:cq u [λk j i=>OJ (Pm u) 0 (GD a.rp a.y.q.tm) b .none a.ch c a.y.W,uX a.y.W a.y.W,λk j i=>TA (Pm u) (GD a.rp a.y.q.tm).c (GD a.rp a.y.q.tm).d (cH i 1 1) (o3 b.body 2 c) (Sn (Pm u) (GD a.rp a.y.q.tm) b (cH i 1 1)) (h9 c b.body) (jH 10 JX (cH i 1)) a.Ba,uX a.Ba a.Ba,λk j i=>ED (Pm u) (So (GD a.rp a.y.q.tm) b c (cH i 3)) b.ps (dt.getD b.j1.val 0) (dt.getD b.j2.val 0) e v f L,λk j i=>Fl (Pm u) (Uo a b c j (cH i 4)) b g G h M e v f L D]:=⟨λk j i=>IC p (by decide) n,λk j i=>kd (by simp),λk j i=>OU n q,λk j i=>kd (by simp),λk j i=>r _ rfl rfl rfl rfl,λk j i=>o _ rfl rfl rfl rfl rfl,cg⟩
 clear p n q r o;exact bT 0x113140cf13d0113d013d317f0120ff1111011f19f219f0120cf002f114d512f15d15d15d12805f14d100f014d15df19f519f40124705f016d000016d17d013 [[19,20,21,22,18],[],[21,22,0],[],[21,22,0,23,12,13],[3,4,5,6,7,8,9,10,11,12,13,14,15,16,17,18,19,20,21,22,0]] [21,20,19,18,17,16,15,14,13,12,11,10,9,8,7,6,5,4,3,2,1,0] (cJ [39,103,167,231,295,359,423,12,10]) s (J:=[[.UO 1],[],[],[],[],[.UO 0]])
section
def Js(d e:ui)(c:Wy (Nat×gi)):U:=λa b f=>Ps "list.__ne__" [.ref (ad a 0),.ref (ad a 1)] ((ad a 0,cm d.toArray (eJ b 0))::(ad a 1,cm e.toArray (eJ b 1))::c) (.bool false)
variable {a:Wy (Nat×gi)}
theorem wv{b:ui}(f:fa a L b):∀c e d,OK u (Js L b a c e d):=λc e d=>ws f
theorem sJ(b:cl)(c d:Nat):ju a (.bytes b c) (.bytes b d):= .plain (Eqv.bytes (by simp))
theorem GF(b:WA cl)(c d:Nat):ju a (iX b c) (iX b d):=match b with
 |none=>.plain Eqv.none
 |some e=>sJ e c d
structure s4 where
 y:fD
 rp:SA
 (cA tc Va:Nat)
 Ba:cl
 tb:Nat
def s4.zz(a:s4):Jq:=⟨a.y,a.rp,.ref a.cA,a.Ba,a.tb⟩
def v2(a:SD)(b c:WA cl):SD:=⟨a.i1,a.j1,a.z1,a.i2,a.j2,a.z2,a.tree,a.ps,b,a.xs,c,a.body⟩
def ww(e:WC)(a:s4)(c:SD)(j:Nat)(l m:Bool)(h:Nat)(g:Wz)(k:Nat)(i:ui)(f:Bool)(d:AL):uk:=(gx e (gH (gH a.y.q.ks 13 (d 0)) 14 (d 2)) (lS (lS (a.zz.vv c) 13 (.ref (d 1))) 14 (.bool f)) 15::(jK e (a.y.q2 c) c.ps h g k i f (cn 2 d)).tail)++[cm (ei j a.y.a a.y.b) a.y.VF,dJ c.i1 c.j1 a.y.Vf (a.y.t 0) (a.y.t 1),fE c.z1 l (a.y.t 2) (a.y.t 3),dJ c.i2 c.j2 a.y.Vd (a.y.t 4) (a.y.t 5),fE c.z2 m (a.y.t 6) (a.y.t 7),fG (d 7)]++(GD a.rp a.y.q.tm).objs e c 0 .none (.ref (d 8)) false++[cp [a.y.W] (λ_=>a.tc) a.Va]
def Fn(c:WC)(a:s4)(b:SD)(g:Nat)(i j:Bool)(k:Wy dh)(e:Nat)(d:Wz)(h:Nat)(f:ui)(m:Bool):Spec:=
 ⟨wt 18 a.y.q.x,287,some a.y.q.x.L,⟨⟨a.y.q.x.L,gx c a.y.q.ks (a.zz.vv b) 13,true⟩::pl (uV c (a.y.q2 b) b.ps e d h f++x0 a.y b g i j++a.rp.cells c b 0 .none (.ref a.cA) false++[(a.cA,cp [a.y.W] (λ_=>a.tc) a.Va)]),[],λl _=>ww c a b g i j e d h f m l,nn,nn,nn,[⟨a.y.q.XS,k⟩,a.rp.UO b],nn⟩,λ_ _=>uj (.bool true)⟩
def TP:Nat:=0x11407f113df34f234fa12f14d14d015d2307f114df34f234fa12f15d15d016d3307f115d600f010110df1101407f0116d112f16d16d017d055701006805f18d100f018d19d0160123
def QT:uh:=[24,40,56,72,88,104,120,136,152]
theorem Jt{b:s4}{a:SD}{g:Bool}(m:s3 [b.y.W] b.y.W)
 (l:OK u (Fm (Pm u) b.zz a e G g M c v f L D)):OK u (Fn (Pm u) b a e G g M c v f L D):=by
 have n:fa [] [iX a.en (b.rp.t 0),iX a.sg (b.rp.t 1),.bytes a.body (b.rp.t 3)] [iX a.en b.y.te,iX a.sg b.y.ts,.bytes a.body b.y.q.tm]:=⟨GF _ _ _,GF _ _ _,sJ _ _ _,cg⟩;have j:cq u [Js [iX (v2 a a.en a.sg).en (b.rp.t 0),iX (v2 a a.en a.sg).sg (b.rp.t 1),.bytes (v2 a a.en a.sg).body (b.rp.t 3)] [iX (v2 a a.en a.sg).en b.y.te,iX (v2 a a.en a.sg).sg b.y.ts,.bytes (v2 a a.en a.sg).body b.y.q.tm] [],λh k i=>OI (Pm u) b.rp.c b.rp.d b.cA b.Va (o9 0 (Pm u) {b.rp.xx (v2 a a.en a.sg) .none (.ref b.cA) false with U8:=false,U4:= .ref b.cA} b.rp.ks) [b.y.W] (λ_=>b.tc) b.y.W,uX b.y.W b.y.W,λh k i=>Fm (Pm u) b.zz (v2 a a.en a.sg) e G g M c v f L D]:=⟨wv n,λh k i=>wa m (by decide),λh k i=>kd (by simp),λh k i=>l,cg⟩
 clear m l n;show OK u (Fn (Pm u) b (v2 a a.en a.sg) e G g M c v f L D);generalize a.en=p,a.sg=o at*;cases p with
 |none=>cases o with
  |none=>exact jT TP [[1,0],[23,24,27],[],[5,6,7,8,9,10,11,12,13,14,15,16,17,18,19,20,21,22,23,24,25,26]] [22,21,20,19,18,17,16,15,14,13,12,11,10,9,8,7,6,5,4,3,2,1,0] (cJ QT) j (J:=[[],[],[],[.UO 0,.UO 1]])
  |some r=>exact jT TP [[1,0],[23,24,27],[],[5,6,7,8,9,10,11,12,13,14,15,16,17,18,19,20,21,22,23,24,25,26]] [22,21,20,19,18,17,16,15,14,13,12,11,10,9,8,7,6,5,4,3,2,1,0] (cJ QT) j (J:=[[],[],[],[.UO 0,.UO 1]])
 |some s=>cases o with
  |none=>exact jT TP [[1,0],[23,24,27],[],[5,6,7,8,9,10,11,12,13,14,15,16,17,18,19,20,21,22,23,24,25,26]] [22,21,20,19,18,17,16,15,14,13,12,11,10,9,8,7,6,5,4,3,2,1,0] (cJ QT) j (J:=[[],[],[],[.UO 0,.UO 1]])
  |some r=>exact jT TP [[1,0],[23,24,27],[],[5,6,7,8,9,10,11,12,13,14,15,16,17,18,19,20,21,22,23,24,25,26]] [22,21,20,19,18,17,16,15,14,13,12,11,10,9,8,7,6,5,4,3,2,1,0] (cJ QT) j (J:=[[],[],[],[.UO 0,.UO 1]])
end
theorem wx{a:Wy (Nat×gi)}(b:Int)(c d:Nat):ju a (.int b c) (.int b d):= .plain (Eqv.int (by simp))
def nZ.tl(a:nZ)(b:Nat):nZ:=⟨a.x,a.ks,lS a.V 12 (.ref b),a.T,a.tn,a.pl,a.U5,a.Fp,a.msg,a.tm,a.ss,a.place,a.t1,a.rl,a.Vk,a.XS⟩
def fD.tl(c:fD)(d:Nat):fD:=⟨c.q.tl d,c.ml,c.VF,c.a,c.b,c.p1,c.Vf,c.p2,c.Vd,c.t,c.te,c.ts,c.tw,c.cX,c.W⟩
def s4.tl(a:s4)(b:Nat):s4:=⟨a.y.tl b,a.rp,a.cA,a.tc,a.Va,a.Ba,a.tb⟩
def wy(a:s4)(b:SD):ui:=[.bytes b.tree (a.rp.t 2),.ref a.rp.lp,.bytes (dv b.i1) (a.rp.t 4),.int (dt.getD b.j1.val 0) (a.rp.t 5),.int (cL b.z1).2.1 (a.rp.t 6),.bytes (dv b.i2) (a.rp.t 7),.int (dt.getD b.j2.val 0) (a.rp.t 8),.int (cL b.z2).2.1 (a.rp.t 9)]
def GG(a:s4)(b:SD):ui:=[.bytes b.tree a.y.q.tn,.ref a.y.q.pl,.bytes (dv b.i1) (a.y.t 0),.int (dt.getD b.j1.val 0) (a.y.t 1),.int (cL b.z1).2.1 (a.y.t 3),.bytes (dv b.i2) (a.y.t 4),.int (dt.getD b.j2.val 0) (a.y.t 5),.int (cL b.z2).2.1 (a.y.t 7)]
def BG(c:WC)(a:s4)(d g:Nat)(b:SD)(i:Nat)(k l:Bool)(m:Wy dh)(f:Nat)(e:Wz)(j:Nat)(h:ui)(o:Bool):Spec:=
 ⟨wt 17 a.y.q.x,288,some a.y.q.x.L,⟨⟨a.y.q.x.L,gx c a.y.q.ks ((a.tl d).zz.vv b) 13,true⟩::pl (uV c (a.y.q2 b) b.ps f e j h++x0 a.y b i k l++a.rp.cells c b 0 .none (.ref a.cA) false++[(a.cA,cp [a.y.W] (λ_=>a.tc) a.Va),(d,cm (wy a b).toArray g)]),[],λn _=>ww c (a.tl d) b i k l f e j h o n++[cm (wy a b).toArray g],nn,nn,nn,[⟨a.y.q.XS,m⟩,a.rp.UO b],nn⟩,λ_ _=>uj (.bool true)⟩
theorem Ju{a:s4}{b:SD}{g:Bool}
 (i:OK u (Fn (Pm u) (a.tl e) b d G g M c v f L D)):OK u (BG (Pm u) a e h b d G g M c v f L D):=by
 have j:fa [(a.rp.lp,cp b.ps a.rp.F a.rp.ep),(a.y.q.pl,cp b.ps a.y.q.Fp a.y.q.U5)] (wy a b) (GG a b):=⟨sJ _ _ _,.lists (.head _) (.tail _ (.head _)),sJ _ _ _,wx _ _ _,wx _ _ _,sJ _ _ _,wx _ _ _,wx _ _ _,cg⟩;have m:cq u [Js (wy a b) (GG a b) [(a.rp.lp,cp b.ps a.rp.F a.rp.ep),(a.y.q.pl,cp b.ps a.y.q.Fp a.y.q.U5)],λk n l=>Fn (Pm u) (a.tl e) b d G g M c v f L D]:=⟨wv j,λk n l=>i,cg⟩
 clear i j;exact jT 0x11111e08f10ed0ed0ed010ed10ed0fd0fd0fd010fd10fd01e08f110d10d10d0110d110d11d11d11d0111d111d01018d03 [[24,0,21,9],[1,2,3,4,5,6,7,8,9,10,11,12,13,14,15,16,17,18,19,20,21,22,23]] [23,22,21,20,19,18,17,16,15,14,13,12,11,10,9,8,7,6,5,4,3,2,1,0] (cJ [10,14,18,22,26,30,34,38,42]) m (J:=[[],[.UO 0,.UO 1]])
def v3(a:SD)(b:WA cl):SD:=⟨a.i1,a.j1,a.z1,a.i2,a.j2,a.z2,a.tree,a.ps,a.en,a.xs,b,a.body⟩
def uZ(c b:Nat)(a:ug)(d:Wy dh)(g:cl)(h:Nat)(e:cl):Spec:=
 ⟨ul 949 [.ref c,.bytes g h],60,none,⟨pl [(c,cm a b)],[],λ_ _=>[cm a b],nn,nn,nn,[⟨a,d⟩],nn⟩,λf _=>uj (.bytes e (f 0))⟩
theorem k9(b:cz M k=l)(e:OK u (eN c a H M k d)):OK u (uZ c a H M k d l):=by subst b;exact e
def PI(c:WC)(a:nZ)(b:Wy cl):Wy (Nat×gi):=[(a.x.cS,dP (.ref a.ss.st)),(a.x.cM,dP (.bytes a.msg a.tm)),(a.x.cO,j3),(a.x.cW,j3),(a.ss.st,a.ss.oo a.place a.t1),(a.ss.sc,cm a.ss.vs a.ss.Vc),(a.rl,cm a.XS a.Vk),(a.pl,cp b a.Fp a.U5),(393,fm),(972,fm)]
def PJ(f:fD)(a:SD)(b:cl)(e:Nat):Nat->Wz:=λc=>match c with
 |9=>.bytes b e
 |d=>f.vv a a.en a.sg d
def Fo(b:AL)(a:AL):AL:=gH (gH (gH (gH (gH b 10 (a 9)) 11 (a 11)) 12 (a 13)) 13 (a 0)) 14 (a 2)
def Fq(b:Nat->Wz)(c:cl)(d:Bool)(a:AL):Nat->Wz:=lS (lS (lS (lS (lS b 10 (.bytes c (a 10))) 11 (.ref (a 12))) 12 (.ref (a 14))) 13 (.ref (a 1))) 14 (.bool d)
def GH(l:WC)(c:fD)(d:SD)(g:ug)(h i:Nat)(j k:Bool)(f:Bool)(e:AL):uk:=[dP (.ref c.q.ss.st),dP (.bytes d.body c.q.tm),QN f (e 3),dP (.ref (e 4)),c.q.ss.oo (c.q.place+1) (e 5),cm c.q.ss.vs c.q.ss.Vc,cm g h,cp d.ps c.q.Fp c.q.U5,ee (e 15),uW f (e 6),cm (ei i c.a c.b) c.VF,dJ d.i1 d.j1 c.Vf (c.t 0) (c.t 1),fE d.z1 j (c.t 2) (c.t 3),dJ d.i2 d.j2 c.Vd (c.t 4) (c.t 5),fE d.z2 k (c.t 6) (c.t 7),fG (e 7)]
def u0(c:WC)(a:fD)(e:cl)(h:Nat)(b:SD)(g:Nat)(i j:Bool)(k:Wy dh)(f:Bool)(l:AL->ug)(m:Nat):Spec:=
 ⟨wt 13 a.q.x,289,some a.q.x.L,⟨⟨a.q.x.L,gx c a.q.ks (PJ a b e h) 10,true⟩::pl (PI c (a.q2 b) b.ps++x0 a b g i j),[],λd _=>gx c (Fo a.q.ks d) (Fq (PJ a b e h) a.W f d) 15::GH c a b (l d) (a.q.Vk+m) g i j f d,nn,nn,nn,[⟨a.q.XS,k⟩],nn⟩,λ_ _=>uj (.bool true)⟩
def Up(c:fD)(g:SD)(h:ug)(i:Nat)(f:uk):fD:=let d:=f[0]?.getD default
 ⟨⟨c.q.x,λe=>dN d e,λe=>cF d e,g.tree,df (cF d 1),c.q.pl,c.q.U5,c.q.Fp,g.body,df (n1 (f[2]?.getD default)),c.q.ss,c.q.place,c.q.t1,c.q.rl,c.q.Vk+i,h⟩,c.ml,c.VF,c.a,c.b,c.p1,c.Vf,c.p2,c.Vd,c.t,c.te,c.ts,df (cF d 10),0,c.W⟩
def Uq(j:fD)(e:cl)(i:Nat)(d:SD)(f:ug)(g:Nat)(c:uk)(a:AL):s4:=let h:=c[19]?.getD default
 ⟨Up j d f g c,⟨a 0,a 1,a 3,a 6,d.ps.length,a 20,a 18,a 19,zq (a 15) (a 16) (a 17),λb=>dN h b,λb=>match b with|0=>a 4|1=>a 5|2=>a 7|3=>a 8|4=>a 9|5=>a 10|6=>a 11|7=>a 12|8=>a 13|_=>a 14⟩,a 2,df (cF (c[0]?.getD default) 10),0,e,i⟩
def PK(i:WG)(d:fD)(j:cl)(o:Nat)(c:SD)(k:eY)(l:Wy dm)(n:Nat)(p r:Bool)(f:Wy dh)(m:Bool)(g:uk->ug)(h:Nat):Wy U:=
 [λe b a=>uZ d.q.rl (d.q.Vk+h) (g (b.drop 1)) f c.body (tk e 1) d.W,λe b a=>Dy i.params (GC c d.W k l) c.sg (tk e 1),λe b a=>BG i.params (Uq d j o c (g (b.drop 26)) h b (cH a 0)) (hu (cF (b[0]?.getD default) 12)) (eJ b 23) c n p r f (cH a 0 39) (jW (cH a 0 40)) (cH a 0 41) (iH (cH a 0 42) (cH a 0 43) (cH a 0 44) (cH a 0 45) (cH a 0 46) (cH a 0 47) (cH a 0 48) (cH a 0 49)) m]
theorem Jv{b:fD}{tb:Nat}{a:SD}{d:Bool}(n:b.q.XS.size=M.length)(p:b.q.XS.size<=1000000)(g:cz (d9 M a.sg (cE .sig)) a.body=b.W)(f:∀s y I t,OK u (eN s y I (d9 M a.sg (cE .sig)) a.body t))(m:∀t,OK u (Dy (Pm u) (GC a b.W P Q) a.sg t))
 (l:∀(h:s4) C z x v H s,h.y.q.ss=b.q.ss->h.y.q.place=b.q.place->h.y.q.XS.size=(d9 M a.sg (cE .sig)).length->h.y.W=b.W->h.Ba=k->OK u (BG (Pm u) h C z a c G d (d9 M a.sg (cE .sig)) x v H s D)):
  match a.sg with
  |none=>OK u (u0 (Pm u) b k tb (v3 a none) c G d M D (λ_=>b.q.XS) 0)
  |some o=>OK u (u0 (Pm u) b k tb (v3 a (some o)) c G d M D (λw=>b.q.XS++ #[.ref (w 16)]) 1):=by
 have e0:a=v3 a a.sg:=rfl;rw[e0]at l f m g;clear e0;dsimp only[v3]at g f;generalize a.sg=A at*;cases A with
 |none=>
  have r:cq u (PK (W2 u) b k tb (v3 a none) P Q c G d M D (λ_=>b.q.XS) 0):=⟨λi e j=>k9 g (f _ _ _ _),λi e j=>m _,λi e j=>l _ _ _ _ _ _ _ rfl rfl n rfl rfl,cg⟩
  clear n p g f m l;exact bT 0x1146f301111730f723f21001128818307f11f34f234fa12f22039307f12f34f234fa12f3304a307f13f34f234fa12f4405b307f14f34f234fa12f5506c307f15f34f234fa12f66070dd307f16f34f234fa12f77080ed307f17f34f234fa12f88090fd307f18600f010110df1101407f01900000990a011d11d3 [[7],[10],[16,17,18,19,20,21,22,23,24,25,14,26,27,28,29,30,31,32,9,10,12,13,11,0]] [16,15,14,13,12,11,10,9,8,7,6,5,4,3,2,1,0] (cJ [181,189,197,205,213,221,229,237,0,1,0,9,7,177,173,163]) r (J:=[[.UO 0],[],[.UO 1,.UO 0]])
 |some o=>
  have r:cq u (mn b.q.XS::PK (W2 u) b k tb (v3 a (some o)) P Q c G d (M++[(cE .sig,o)]) D (λe=>b.q.XS++ #[l8 e 0 1]) 1):=⟨fU p,λi e j=>k9 g (f _ _ _ _),λi e j=>m _,λi e j=>l _ _ _ _ _ _ _ rfl rfl (by show(b.q.XS++ #[_]).size=(M++[_]).length;rw[Array.size_append,List.length_append,n];rfl) rfl rfl,cg⟩
  clear n p g f m l;exact bT 0x11118888100192102401221730f723f31001129919307f11f34f234fa12f2203a307f12f34f234fa12f3304b307f13f34f234fa12f4405c307f14f34f234fa12f55060dd307f15f34f234fa12f66070ed307f16f34f234fa12f77080fd307f17f34f234fa12f880910d307f18600f010110df1101407f01900000990a012d12d3 [[8],[8],[11],[17,18,19,20,21,22,23,24,25,26,14,27,28,29,30,31,32,33,9,10,12,13,11,0]] [16,15,14,13,12,11,10,9,8,7,6,5,4,3,2,1,0] (cJ [365,381,397,413,429,445,461,477,0,5,3,21,17,357,349,329,1]) r (J:=[[],[.app (.UO 0) (.cells [0])],[],[.app (.UO 1) (.cells [16]),.UO 0]])
section
def PL(c:WA cl)(a:ug)(b:AL):ug:=match c with
 |none=>a
 |some _=>a++ #[.ref (b 16)]
def Cb(a:WA cl):Nat:=match a with
 |none=>0
 |some _=>1
variable {f:Bool} {c:SD} {e:fD}
theorem Fs{d:eY}{ds:Wy dm}(r:e.q.XS.size=M.length)(p:e.q.XS.size<=1000000)(o:cz (d9 M c.sg (cE .sig)) c.body=e.W)(m:∀i v A j,OK u (eN i v A (d9 M c.sg (cE .sig)) c.body j))(n:∀j,OK u (Dy (Pm u) (GC c e.W d ds) c.sg j))
 (l:∀(b:s4) y w t s z i,b.y.q.ss=e.q.ss->b.y.q.place=e.q.place->b.y.q.XS.size=(d9 M c.sg (cE .sig)).length->b.y.W=e.W->b.Ba=k->OK u (BG (Pm u) b y w c a G f (d9 M c.sg (cE .sig)) t s z i D)):
  OK u (u0 (Pm u) e k g c a G f M D (PL c.sg e.q.XS) (Cb c.sg)):=by
 have h:=Jv (tb:=g) r p o m n l;rw[show c=v3 c c.sg from rfl];dsimp only[v3]at h|-;clear r p o m n l;generalize c.sg=x at*;cases x with
 |none=>exact h
 |some C=>exact h
theorem x1{c:Nat}(b:a<=2):(ei a c d).size=a:=match a,b with
 |0,_=>rfl
 |1,_=>rfl
 |2,_=>rfl
def v4(a:SD)(b:WA cl):SD:=⟨a.i1,a.j1,a.z1,a.i2,a.j2,a.z2,a.tree,a.ps,b,a.xs,a.sg,a.body⟩
def u1(f:WC)(c:fD)(j:cl)(d:SD)(h i:Bool)(k:Wy dh)(g:Bool)(l:AL->ug)(m:Nat):Spec:=
 ⟨wt 10 c.q.x,290,some c.q.x.L,⟨⟨c.q.x.L,gx f c.q.ks (c.vv d d.en d.sg) 9,true⟩::pl (PI f (c.q2 d) d.ps++x0 c d d.xs.length h i),[],λe _=>gx f (gH (Fo c.q.ks e) 9 (e 16)) (Fq (lS (lS (c.vv d d.en d.sg) 8 (.ref (e 17))) 9 (.bytes j (e 18))) c.W g e) 15::GH f c d (l e) (c.q.Vk+m) d.xs.length h i g e,nn,nn,nn,[⟨c.q.XS,k⟩,⟨ei d.xs.length c.a c.b,d.xs⟩],nn⟩,λ_ _=>uj (.bool true)⟩
def GI(c:uk->ug)(d:ug):U:=λb a e=>hn (ad b 0) (ad b 1) (c (a.drop 2)) d (eJ a 0) (eJ a 1)
theorem sK{a:uk->ug}(e:∀b,(a b).size<=1000)(f:H.size<=1000):∀c b d,OK u (GI a H c b d):=λc b d=>mL (by have:=e (b.drop 2);omega)
def Ur(c:fD)(g:SD)(h:ug)(f:uk):fD:=let d:=f[0]?.getD default
 ⟨⟨c.q.x,λe=>dN d e,λe=>cF d e,g.tree,df (cF d 1),c.q.pl,c.q.U5,c.q.Fp,g.body,df (n1 (f[2]?.getD default)),c.q.ss,c.q.place,c.q.t1,hu (cF d 8),eJ f 7,h⟩,c.ml,c.VF,c.a,c.b,c.p1,c.Vf,c.p2,c.Vd,c.t,c.te,c.ts,0,0,c.W⟩
def PN(m:WG)(h:fD)(i:cl)(d:SD)(n o:Bool)(j:Wy dh)(k:Bool)(f:uk->ug):Wy U:=
 let e:=ei d.xs.length h.a h.b
 [GI f e,λg c l=>uZ (ad g 0) (eJ c 0) (f (c.drop 2)++e) j d.body (tk g 1) i,λg c l=>u0 m.params (Ur h d (f (c.drop 19)++e) c) i (df (cF (c[0]?.getD default) 9)) d d.xs.length n o j k (PL d.sg (f (c.drop 19)++e)) (Cb d.sg)]
theorem Jw(n:e.q.XS.size=M.length)(t:e.q.XS.size<=900)(r:c.xs.length<=2)(g:cz (d9 M c.en (cE .encoding)++c.xs) c.body=k)(d:∀y x C z,OK u (eN y x C (d9 M c.en (cE .encoding)++c.xs) c.body z))
 (j:∀(i:fD) A,i.q.ss=e.q.ss->i.q.place=e.q.place->i.q.XS.size=(d9 M c.en (cE .encoding)++c.xs).length->i.W=e.W->OK u (u0 (Pm u) i k A c c.xs.length G f (d9 M c.en (cE .encoding)++c.xs) D (PL c.sg i.q.XS) (Cb c.sg))):
  match c.en with
  |none=>OK u (u1 (Pm u) e k (v4 c none) G f M D (λ_=>e.q.XS) 0)
  |some m=>OK u (u1 (Pm u) e k (v4 c (some m)) G f M D (λv=>e.q.XS++ #[.ref (v 19)]) 1):=by
 have e0:c=v4 c c.en:=rfl;rw[e0]at j d g;clear e0;dsimp only[v4]at g d;have h:(ei c.xs.length e.a e.b).size=c.xs.length:=x1 r;generalize c.en=w at*;cases w with
 |none=>
  have s:cq u (PN (W2 u) e k (v4 c none) G f (M++c.xs) D (λ_=>e.q.XS)):=⟨sK (λ_=>by omega) (by show(ei c.xs.length e.a e.b).size<=_;rw[h];omega),λo l p=>k9 g (d _ _ _ _),λo l p=>j _ _ rfl rfl (by show(e.q.XS++ei c.xs.length e.a e.b).size=(M++c.xs).length;rw[Array.size_append,List.length_append,n,h]) rfl,cg⟩
  clear n t g d j r h;exact bT 0x1111118c8018222102401223 [[7,11],[0],[1,2,3,4,5,6,7,0,9,10,11,12,13,14,15,16,17]] [16,15,14,13,12,11,10,9,8,7,6,5,4,3,2,1,0] (cJ [9,17,25,33,41,49,57,65,0,81,89,97,105,113,121,129,5,0,3]) s (J:=[[],[.app (.UO 0) (.UO 1)],[.app (.UO 0) (.UO 1)]])
 |some m=>
  have s:cq u (mn e.q.XS::PN (W2 u) e k (v4 c (some m)) G f ((M++[(cE .encoding,m)])++c.xs) D (λl=>e.q.XS++ #[l8 l 0 1])):=⟨fU (by omega),sK (λ_=>by rw[Array.size_append];show e.q.XS.size+1<=_;omega) (by show(ei c.xs.length e.a e.b).size<=_;rw[h];omega),λo l p=>k9 g (d _ _ _ _),λo l p=>j _ _ rfl rfl (by show((e.q.XS++ #[_])++ei c.xs.length e.a e.b).size=((M++[_])++c.xs).length;rw[Array.size_append,Array.size_append,List.length_append,List.length_append,n,h];rfl) rfl,cg⟩
  clear n t g d j r h;exact bT 0x1111888810019212290dd9019233103501333 [[8],[8,12],[0],[2,3,4,5,6,7,8,0,10,11,12,13,14,15,16,17,18]] [16,15,14,13,12,11,10,9,8,7,6,5,4,3,2,1,0] (cJ [21,37,53,69,85,101,117,133,0,165,181,197,213,229,245,261,13,3,9,1]) s (J:=[[],[],[.app (.app (.UO 0) (.cells [1])) (.UO 1)],[.app (.app (.UO 0) (.cells [1])) (.UO 1)]])
end
section
def x2(b:uk)(a:Nat):ug:=match(b[a]?.getD default).data with
 | .seq c _=>c
 |_=> #[]
def Jx:Wy (WA cl)->(Nat->Nat)->ui
 |[],_=>[]
 |b::c,a=>iX b (a 0)::Jx c (cy a)
theorem wz:∀(a:Wy (WA cl)) (c:Nat->Nat) (d:Nat),(Jx a c)[d]?=(a[d]?).map λb=>iX b (c d)
 |[],_,_=>by simp[Jx]
 |b::a,c,0=>by simp[Jx]
 |b::a,c,d+1=>by
  simp only[Jx,List.getElem?_cons_succ,wz a (cy c) d];rfl
def BH(d:Wy (WA cl))(e:Nat)(f:WA cl):U:=λa b g=>fh "list.__getitem__" [.ref (ad a 0),.int (e:Nat) (tk a 1)] [(ad a 0,cm ⟨Jx d (iB b 0)⟩ (eJ b 0))] λc=>iX f (c 0)
def GJ(d:Wy cl)(e:Nat)(f:cl):U:=λa b g=>fh "list.__getitem__" [.ref (ad a 0),.int (e:Nat) (tk a 1)] [(ad a 0,cm ⟨d3 d (iB b 0)⟩ (eJ b 0))] λc=>.bytes f (c 0)
theorem sL{b:Wy (WA cl)}{c:WA cl}(g:b[a]?=some c)(i:a<2^24)(j:b.length<2^24):∀e d f,OK u (BH b a c e d f):=λe d f=>by
 refine pO (dZ (v:=iX c (iB d 0 a)) (by omega) (by omega) ?_) λh=>⟨λ_=>iB d 0 a,rfl⟩
 rw[Int.toNat_natCast];show(Jx b (iB d 0)).toArray[a]?=_;rw[List.getElem?_toArray,wz,g];rfl
theorem BI{b:Wy cl}{c:cl}(g:b[a]?=some c)(i:a<2^24)(j:b.length<2^24):∀e d f,OK u (GJ b a c e d f):=λe d f=>by
 refine pO (dZ (v:= .bytes c (iB d 0 a)) (by omega) (by omega) ?_) λh=>⟨λ_=>iB d 0 a,rfl⟩
 rw[Int.toNat_natCast];show(d3 b (iB d 0)).toArray[a]?=_;rw[List.getElem?_toArray,kK,g];rfl
def Ft:Wy (WA cl):=[none,some #[45,45,45,45,45,66,69,71,73,78,10,10,97,98,99,10,45,45,45,45,45,69,78,68],some #[120]]
def sM:Wy cl:=[#[],#[116,101,120,116,10],#[10,116,114,101,101,32,49,50,10,10,112,97,114,101,110,116],#[103,112,103,115,105,103,32,120,10,32,121]]
def qy(f d:Nat)(a:Fin 3)(b:Fin 4)(c:Fin 6)(e:Bool)(g h i j:Nat):Spec:=
 ⟨ul 944 [.ref f],30,none,UM [(f,dJ a b d g h),(d,fE c e i j)] (λ_=>[dJ a b d g h,fE c e i j]) (λ_=>[]),λk _=>uj (.bytes (dk a b c) (k 0))⟩
theorem pk{b:Fin 3}{c:Fin 4}{a:Fin 6}(j:(cL a).2.2=D):OK u (qy d i b c a D e f g h):=by subst j;exact xh
def BJ(f c:Nat)(a b:ug)(d e:Nat)(g h:Wy dh):Spec:=⟨(hn f c a b d e).code,(hn f c a b d e).dep,(hn f c a b d e).top,⟨(hn f c a b d e).UM.pre,(hn f c a b d e).UM.UR,(hn f c a b d e).UM.post,(hn f c a b d e).UM.UQ,(hn f c a b d e).UM.new,(hn f c a b d e).UM.UW,[⟨a,g⟩,⟨b,h⟩],(hn f c a b d e).UM.US⟩,(hn f c a b d e).res⟩
def BK(c d:Wy dh):U:=λb a e=>BJ (ad b 0) (ad b 1) (x2 a 0) (x2 a 1) (eJ a 0) (eJ a 1) c d
theorem sN{a:Wy dh}(f:M.length+a.length<=1000000):∀c b d,OK u (BK M a c b d):=λc b d=>by
 show ct _ _ _ (BJ _ _ _ _ _ _ _ _);refine ct.member (xs:=x2 b 0) (rows:=M) (.head _) λg _=> ?_
 refine ct.member (xs:=x2 b 1) (rows:=a) (.tail _ (.head _)) λh _=> ?_
 exact ct.more (bs:=[]) (mL (by omega)) λ_ _ _ e=>nomatch e
def PO(c:WA cl)(a:ug)(b:AL):ug:=match c with
 |none=>a
 |some _=>a++ #[.ref (b 19)]
variable {c:Bool} {a:SD} {b:fD}
theorem Fu(n:M.length<=900)(i:a.xs.length<=2)(h:cz (d9 M a.en (cE .encoding)++a.xs) a.body=k)(g:∀o m s p,OK u (eN o m s (d9 M a.en (cE .encoding)++a.xs) a.body p))
 (f:∀(d:fD) r,d.q.ss=b.q.ss->d.q.place=b.q.place->d.q.XS.size=(d9 M a.en (cE .encoding)++a.xs).length->d.W=b.W->OK u (u0 (Pm u) d k r a a.xs.length D G (d9 M a.en (cE .encoding)++a.xs) c (PL a.sg d.q.XS) (Cb a.sg))):
  OK u (u1 (Pm u) b k a D G M c (PO a.en b.q.XS) (Cb a.en)):=by
 refine ct.member (xs:=b.q.XS) (rows:=M) (.head _) λj _=> ?_
 have e:=Jw j (by omega) i h g f;show OK u (u1 (Pm u) b k a D G M c (PO a.en b.q.XS) (Cb a.en));rw[show a=v4 a a.en from rfl];dsimp only[v4]at e|-;clear j n h g f i;generalize a.en=l at*;cases l with
 |none=>exact e
 |some t=>exact e
def TS(c:WC)(a:nZ)(b:Wy cl):Wy (Nat×gi):=[(a.x.cS,dP (.ref a.ss.st)),(a.x.cM,j3),(a.x.cO,j3),(a.x.cW,j3),(a.ss.st,a.ss.oo a.place a.t1),(a.ss.sc,cm a.ss.vs a.ss.Vc),(a.pl,cp b a.Fp a.U5),(393,fm),(972,fm)]
def Sp(i:WC)(c:fD)(d:SD)(g h:Bool)(f:Bool)(e:AL):uk:=[dP (.ref c.q.ss.st),dP (.bytes d.body (e 23)),QN f (e 3),dP (.ref (e 4)),c.q.ss.oo (c.q.place+1+1+1) (e 5),cm c.q.ss.vs c.q.ss.Vc,cp d.ps c.q.Fp c.q.U5,ee (e 15),uW f (e 6),cm (ei d.xs.length c.a c.b) c.VF,dJ d.i1 d.j1 c.Vf (c.t 0) (c.t 1),fE d.z1 g (c.t 2) (c.t 3),dJ d.i2 d.j2 c.Vd (c.t 4) (c.t 5),fE d.z2 h (c.t 6) (c.t 7),fG (e 7)]
def uq(a:fD)(b:SD):Nat->Wz:=λc=>match c with
 |1=>.bytes b.tree a.q.tn
 |2=>.ref a.q.pl
 |3=>.ref a.p1
 |4=>.ref a.p2
 |5=>iX b.en a.te
 |6=>.ref a.ml
 |d=>a.q.V d
def J7(f:WC)(c:fD)(j:cl)(d:SD)(h i:Bool)(g:Bool):Spec:=
 ⟨wt 7 c.q.x,291,some c.q.x.L,⟨⟨c.q.x.L,gx f c.q.ks (uq c d) 7,true⟩::pl (TS f (c.q2 d) d.ps++x0 c d d.xs.length h i),[],λe _=>gx f (gH (gH (gH (Fo c.q.ks e) 9 (e 16)) 7 (e 20)) 8 (e 21)) (Fq (lS (lS (lS (uq c d) 7 (iX d.sg (e 22))) 8 (.ref (e 17))) 9 (.bytes j (e 18))) c.W g e) 15::Sp f c d h i g e,nn,nn,nn,[⟨ei d.xs.length c.a c.b,d.xs⟩],nn⟩,λ_ _=>uj (.bool true)⟩
def j4(a:SD):Wy dh:=([(cE .tree,a.tree)]++jP a.ps)++[AW a,AX a]
def Us(c:fD)(g:SD)(d:uk)(h:Nat):fD:=let e:=d[0]?.getD default
 ⟨⟨c.q.x,λf=>dN e f,λf=>cF e f,g.tree,df (cF e 1),c.q.pl,c.q.U5,c.q.Fp,g.body,df (n1 (d[2]?.getD default)),c.q.ss,c.q.place+1+1,lk d 5 1,hu (cF e 8),eJ d 7,x2 d 7⟩,c.ml,c.VF,c.a,c.b,c.p1,c.Vf,c.p2,c.Vd,c.t,c.te,h,0,0,c.W⟩
def v5(a:SD)(b:Wy cl)(c:WA cl):SD:=⟨a.i1,a.j1,a.z1,a.i2,a.j2,a.z2,a.tree,b,a.en,a.xs,c,a.body⟩
def QQ:Nat:=0x11003710f221004011110112015513005cc01c101001142111f090100a010041401420dd0dd3
def TQ:Nat:=0x11003710f22100411af0112015513005cc01c10100111142111f090100a010041401420dd0dd3
def QU:uh:=[1983,3007,4031,5055,6079,7103,8127,9151,0,11199,12223,13247,14271,15295,16319,17343,18367,19391,20415,0,7,1471,5,39]
theorem PP{k3 k4:Nat}(l:nX b.q.ss)(o:0<=b.q.place)(p:dD b.q.ss.vs b.q.place b.q.ss.fb 3=(k3:Nat))(r:dD b.q.ss.vs (b.q.place+1) b.q.ss.fb 4=(k4:Nat))(i:Ft[k3]?=some a.sg)(j:sM[k4]?=some a.body)(s:a.ps.length<=3)(v:(cL a.z1).2.2=D)(w:(cL a.z2).2.2=G)
 (n:∀(g:fD),g.q.ss=b.q.ss->g.q.place=b.q.place+1+1->g.W=b.W->OK u (u1 (Pm u) g k a D G (j4 a) c (PO a.en g.q.XS) (Cb a.en))):OK u (J7 (Pm u) b k a D G c):=by
 have z:k3<3:=by
  rcases List.getElem?_eq_some_iff.mp i with⟨m,_⟩;exact m
 have A:k4<4:=by
  rcases List.getElem?_eq_some_iff.mp j with⟨m,_⟩;exact m
 have h:cq u [mv b.q.ss b.q.place 3 k3,BH Ft k3 (v5 a a.ps a.sg).sg,mv b.q.ss (b.q.place+1) 4 k4,GJ sM k4 (v5 a a.ps a.sg).body,λd e f=>Ph (Pm u) (jf d) (hC d) (hD d) (l9 d) b.q.pl b.q.U5 (v5 a a.ps a.sg).ps b.q.Fp,BK [(cE .tree,(v5 a a.ps a.sg).tree)] (jP (v5 a a.ps a.sg).ps),λd e f=>qy b.p1 b.Vf (v5 a a.ps a.sg).i1 (v5 a a.ps a.sg).j1 (v5 a a.ps a.sg).z1 D (b.t 0) (b.t 1) (b.t 2) (b.t 3),λd e f=>qy b.p2 b.Vd (v5 a a.ps a.sg).i2 (v5 a a.ps a.sg).j2 (v5 a a.ps a.sg).z2 G (b.t 4) (b.t 5) (b.t 6) (b.t 7),BK ([(cE .tree,(v5 a a.ps a.sg).tree)]++jP (v5 a a.ps a.sg).ps) [AW (v5 a a.ps a.sg),AX (v5 a a.ps a.sg)],λd e f=>u1 (Pm u) (Us b (v5 a a.ps a.sg) e (cH f 7 0)) k (v5 a a.ps a.sg) D G (j4 (v5 a a.ps a.sg)) c (PO (v5 a a.ps a.sg).en (x2 e 7)) (Cb (v5 a a.ps a.sg).en)]:=⟨fY l o (by decide) p,sL i (by omega) (by decide),fY l (by omega) (by decide) r,BI j (by omega) (by decide),λd e f=>I2 s,sN (by show 1+(jP a.ps).length<=_;unfold jP;rw[List.length_map];omega),λd e f=>pk v,λd e f=>pk w,sN (by show([_]++jP a.ps).length+2<=_;unfold jP;rw[List.length_append,List.length_map];show 1+_+2<=_;omega),λd e f=>n _ rfl rfl rfl,cg⟩
 clear l o p r i j s v w n z A;show OK u (J7 (Pm u) b k (v5 a a.ps a.sg) D G c);generalize a.ps=x,a.sg=y at*;cases x with
 |nil=>cases y with
  |none=>exact bT QQ [[6,7],[0],[7,8],[0],[2,14,1,0],[3,1],[19,20],[22,23],[3,0],[12,13,14,15,16,17,18,0,19,20,21,22,23,24,25,26,27]] [15,14,13,12,11,10,9,8,7,6,5,4,3,2,1,0] (cJ QU) h (J:=[[],[],[],[],[],[.cells [4],.UO 0],[],[],[.cells [8],.cells [2,1]],[.cells [9,3,2],.UO 1]])
  |some C=>exact bT QQ [[6,7],[0],[7,8],[0],[2,14,1,0],[3,1],[19,20],[22,23],[3,0],[12,13,14,15,16,17,18,0,19,20,21,22,23,24,25,26,27]] [15,14,13,12,11,10,9,8,7,6,5,4,3,2,1,0] (cJ QU) h (J:=[[],[],[],[],[],[.cells [4],.UO 0],[],[],[.cells [8],.cells [2,1]],[.cells [9,3,2],.UO 1]])
 |cons H x=>cases y with
  |none=>exact bT TQ [[6,7],[0],[7,8],[0],[2,14,1,0],[3,1],[19,20],[22,23],[3,0],[12,13,14,15,16,17,18,0,19,20,21,22,23,24,25,26,27]] [15,14,13,12,11,10,9,8,7,6,5,4,3,2,1,0] (cJ QU) h (J:=[[],[],[],[],[],[.cells [4],.UO 0],[],[],[.app (.cells [8]) (.UO 0),.cells [2,1]],[.app (.app (.cells [9]) (.UO 0)) (.cells [3,2]),.UO 1]])
  |some C=>exact bT TQ [[6,7],[0],[7,8],[0],[2,14,1,0],[3,1],[19,20],[22,23],[3,0],[12,13,14,15,16,17,18,0,19,20,21,22,23,24,25,26,27]] [15,14,13,12,11,10,9,8,7,6,5,4,3,2,1,0] (cJ QU) h (J:=[[],[],[],[],[],[.cells [4],.UO 0],[],[],[.app (.cells [8]) (.UO 0),.cells [2,1]],[.app (.app (.cells [9]) (.UO 0)) (.cells [3,2]),.UO 1]])
end
section
def PQ(c:Wy dh)(a b:Nat):Nat:=match c with
 |[]=>a
 |_=>b
def BL(e:WC)(g f h d:Nat)(a:Wy dh)(c:SS)(i:Int)(j:Nat):Spec:=
 ⟨.compStart xR 0 (.ref g) (.ref f) (su xR 974 h d [(lq "state",c.cs)]),64,some d,⟨pl (lO e g f h a.length c i j),[],λb _=>[fS a.length 0 1,cm (ei a.length (b 3) (b 4)) a.length,mM e a.length (b 0) (b 1),dP (.ref c.st),c.oo (ib i a.length) (PQ a j (b 2)),cm c.vs c.Vc],nn,nn,nn,[],λb _=>[⟨ei a.length (b 3) (b 4),a⟩]⟩,λ_ _=>.ok .next⟩
variable {c:Wy MM}
theorem Fv{a:SS}(o:c.map ho=M)(k:nX a)(l:0<=q)(m:sv a q c)(n:c.length<=2):OK u (BL (Pm u) f e g d M a q h):=by
 subst o;have j:∀b i,PQ (c.map ho) b i=Pf c b i:=λb i=>by cases c<;>rfl
 have:=EP (u:=u) (it:=f) (acc:=e) (loc:=g) (L:=d) (t1:=h) k l m n;unfold BL;simp only[j,List.length_map];exact this
def Fw:Wy (WA cl):=[none,some #[108,97,116,105,110,49]]
def Ut(a:WC)(c:nZ)(b:Wy cl):Wy (Nat×gi):=TS a c b++[(693,fm)]
def TX(a:fD)(d:SD):Nat->Wz:=λb=>match b with
 |1=>.bytes d.tree a.q.tn
 |2=>.ref a.q.pl
 |c=>a.q.V c
def Uu(b a:AL):AL:=gH (gH (gH (Fo b a) 9 (a 16)) 7 (a 20)) 8 (a 21)
def Uv(c:Nat->Wz)(f:WA cl)(b d:cl)(e:Bool)(a:AL):Nat->Wz:=Fq (lS (lS (lS c 7 (iX f (a 22))) 8 (.ref (a 17))) 9 (.bytes b (a 18))) d e a
def Uw(b a:AL):AL:=gH (gH (gH (gH (Uu b a) 3 (a 24)) 4 (a 25)) 5 (a 26)) 6 (a 27)
def Ux(d:Nat->Wz)(b:SD)(c e:cl)(f:Bool)(a:AL):Nat->Wz:=Uv (lS (lS (lS (lS d 3 (.ref (a 28))) 4 (.ref (a 29))) 5 (iX b.en (a 30))) 6 (.ref (a 31))) b.sg c e f a
def p7(b:Int)(a:Nat):Int:=ib (b+1+1+1+1+1+1+1+1) a
def Sq(f:WC)(b:fD)(d:SD)(e:Int)(c:Bool)(a:AL):uk:=[dP (.ref b.q.ss.st),dP (.bytes d.body (a 23)),QN c (a 3),dP (.ref (a 4)),b.q.ss.oo (e+1+1+1) (a 5),cm b.q.ss.vs b.q.ss.Vc,cp d.ps b.q.Fp b.q.U5,ee (a 15),uW c (a 6),fG (a 7)]
def J8(c:WC)(a:fD)(f:cl)(b:SD)(e:Bool):Spec:=
 ⟨wt 3 a.q.x,292,some a.q.x.L,⟨⟨a.q.x.L,gx c a.q.ks (TX a b) 3,true⟩::pl (Ut c (a.q2 b) b.ps),[],λd _=>gx c (Uw a.q.ks d) (Ux (TX a b) b f a.W e d) 15::Sq c a b (p7 a.q.place b.xs.length) e d,nn,nn,nn,[],nn⟩,λ_ _=>uj (.bool true)⟩
def y7(b:fD)(f:SD)(e:uk)(a:Wy AL):fD:=let d:=e[0]?.getD default
 ⟨⟨b.q.x,λc=>dN d c,λc=>cF d c,f.tree,df (cF d 1),b.q.pl,b.q.U5,b.q.Fp,f.body,0,b.q.ss,p7 b.q.place f.xs.length,lk e 5 1,0,0,#[]⟩,hu (cF d 6),eJ e 10,cH a 0 3,cH a 0 4,cH a 5 0,cH a 5 1,cH a 4 0,cH a 4 1,λc=>match c with|0=>cH a 5 3|1=>cH a 5 4|2=>cH a 5 5|3=>cH a 5 6|4=>cH a 4 3|5=>cH a 4 4|6=>cH a 4 5|_=>cH a 4 6,cH a 2 0,0,0,0,b.W⟩
def TY(a:fD):SS:=⟨a.q.x.cS,a.q.ss.st,a.q.ss.sc,a.q.ss.fb,a.q.ss.t2,a.q.ss.ep,a.q.ss.vs,a.q.ss.Vc⟩
def PR(a:SS)(e:Int)(b:Fin 3)(c:Fin 4)(f:Fin 6):U:=λg d h=>vq a.st a.sc e a.fb b c f (lk d 0 1) a.t2 a.ep a.vs a.Vc
def v6(a:SD)(b:WA cl)(c:Wy dh):SD:=⟨a.i1,a.j1,a.z1,a.i2,a.j2,a.z2,a.tree,a.ps,b,c,a.sg,a.body⟩
def drawn(a:SS)(b:Int)(c:SD)(d:Nat)(e:Wy MM):Prop:=dD a.vs b a.fb 3=(c.i1.val:Nat)/\dD a.vs (b+1) a.fb 4=(c.j1.val:Nat)/\dD a.vs (b+1+1) a.fb 6=(c.z1.val:Nat)/\dD a.vs (b+1+1+1) a.fb 3=(c.i2.val:Nat)/\dD a.vs (b+1+1+1+1) a.fb 4=(c.j2.val:Nat)/\dD a.vs (b+1+1+1+1+1) a.fb 6=(c.z2.val:Nat)/\dD a.vs (b+1+1+1+1+1+1) a.fb 2=(d:Nat)/\dD a.vs (b+1+1+1+1+1+1+1) a.fb 3=(c.xs.length:Nat)/\sv a (b+1+1+1+1+1+1+1+1) e
theorem qz{x x':SS}(a:x'.vs=x.vs)(b:x'.fb=x.fb):∀{d:Int} {c:Wy MM},sv x d c->sv x' d c
 |_,[],_=>trivial
 |_,h::c,⟨e,f,g⟩=>⟨by rw[a,b];exact e,by rw[a,b];exact f,qz a b g⟩
def QR:Nat:=0x1102013310401551111f21ef20166100070602f506f1111101001aa13
def QS:Nat:=0x1102013310401551111f21ef20166100070602f506f1111101001aa1113
def J9:uh:=[369,497,625,753,881,1009,1137,1265,0,1521,1649,1777,1905,2033,2161,2289,2417,2545,2673,0,2929,3057,3185,3313,1,5,33,305,0,3,25,209]
theorem PT{b:fD}{a:SD}(f:nX b.q.ss)(G:0<=b.q.place)(H:drawn b.q.ss b.q.place a d c)(m:Fw[d]?=some a.en)(n:c.map ho=a.xs)(o:a.xs.length<=2)
 (C:∀(j:fD),j.q.ss=b.q.ss->j.q.place=p7 b.q.place a.xs.length->j.W=b.W->OK u (J7 (Pm u) j k a (cL a.z1).2.2 (cL a.z2).2.2 D)):OK u (J8 (Pm u) b k a D):=by
 have L:d<2:=by
  rcases List.getElem?_eq_some_iff.mp m with⟨I,_⟩;exact I
 obtain⟨d1,p,r,s,t,v,w,y,z⟩:=H;have i:cq u [PR b.q.ss (b.q.place) (v6 a a.en a.xs).i1 (v6 a a.en a.xs).j1 (v6 a a.en a.xs).z1,PR b.q.ss ((b.q.place)+1+1+1) (v6 a a.en a.xs).i2 (v6 a a.en a.xs).j2 (v6 a a.en a.xs).z2,mv b.q.ss ((b.q.place)+1+1+1+1+1+1) 2 d,BH Fw d (v6 a a.en a.xs).en,mv b.q.ss ((b.q.place)+1+1+1+1+1+1+1) 3 (v6 a a.en a.xs).xs.length,λe g h=>BL (Pm u) (jf e) (hC e) (hD e) (l9 e) (v6 a a.en a.xs).xs (TY b) ((b.q.place)+1+1+1+1+1+1+1+1) (lk g 4 1),λe g h=>J7 (Pm u) (y7 b (v6 a a.en a.xs) g h) k (v6 a a.en a.xs) (cL (v6 a a.en a.xs).z1).2.2 (cL (v6 a a.en a.xs).z2).2.2 D]:=⟨λe g h=>nb _ G f.sz f.iv d1 p r,λe g h=>nb _ (by omega) f.sz f.iv s t v,fY f (by omega) (by decide) w,sL m (by omega) (by decide),fY f (by omega) (by decide) y,λe g h=>Fv n ⟨f.sz,f.iv⟩ (by omega) (qz (x:=b.q.ss) (x':=TY b) rfl rfl z) (by have:=congrArg List.length n;rw[List.length_map]at this;omega),λe g h=>C _ rfl rfl rfl,cg⟩
 clear f G d1 p r s t v w y z m n C L;show OK u (J8 (Pm u) b k (v6 a a.en a.xs) D);generalize a.en=l,a.xs=N at*
 match N,o with
 |[],_=>cases l with
  |none=>exact bT QR [[5,6],[7,8],[10,11],[0],[10,11],[2,1,0,10,14,15],[9,10,11,12,13,14,15,16,17,18,1,7,8,5,6,19]] [10,9,8,7,6,5,4,3,2,1,0] (cJ J9) i (J:=[[],[],[],[],[],[],[.UO 0]])
  |some A=>exact bT QR [[5,6],[7,8],[10,11],[0],[10,11],[2,1,0,10,14,15],[9,10,11,12,13,14,15,16,17,18,1,7,8,5,6,19]] [10,9,8,7,6,5,4,3,2,1,0] (cJ J9) i (J:=[[],[],[],[],[],[],[.UO 0]])
 |[M],_=>cases l with
  |none=>exact bT QS [[5,6],[7,8],[10,11],[0],[10,11],[2,1,0,10,14,15],[9,10,11,12,13,14,15,16,17,18,1,7,8,5,6,19]] [10,9,8,7,6,5,4,3,2,1,0] (cJ J9) i (J:=[[],[],[],[],[],[],[.UO 0]])
  |some A=>exact bT QS [[5,6],[7,8],[10,11],[0],[10,11],[2,1,0,10,14,15],[9,10,11,12,13,14,15,16,17,18,1,7,8,5,6,19]] [10,9,8,7,6,5,4,3,2,1,0] (cJ J9) i (J:=[[],[],[],[],[],[],[.UO 0]])
 |[M,O],_=>cases l with
  |none=>exact bT QS [[5,6],[7,8],[10,11],[0],[10,11],[2,1,0,10,14,15],[9,10,11,12,13,14,15,16,17,18,1,7,8,5,6,19]] [10,9,8,7,6,5,4,3,2,1,0] (cJ J9) i (J:=[[],[],[],[],[],[],[.UO 0]])
  |some A=>exact bT QS [[5,6],[7,8],[10,11],[0],[10,11],[2,1,0,10,14,15],[9,10,11,12,13,14,15,16,17,18,1,7,8,5,6,19]] [10,9,8,7,6,5,4,3,2,1,0] (cJ J9) i (J:=[[],[],[],[],[],[],[.UO 0]])
 |_::_::_::_,o=>exact absurd o (by simp)
end
section
def PU(a:Wy cl)(b c:Nat):Nat:=match a with
 |[]=>b
 |_=>c
def BM(e:WC)(g f h d:Nat)(a:Wy cl)(b:SS)(i:Int)(j:Nat):Spec:=
 ⟨.compStart ph 0 (.ref g) (.ref f) (su ph 974 h d [(lq "state",b.cs)]),114,some d,⟨pl (lO e g f h a.length b i j),[],λc _=>[fS a.length 0 1,cp a (cn 3 c) a.length,mM e a.length (c 0) (c 1),dP (.ref b.st),b.oo (ib i a.length) (PU a j (c 2)),cm b.vs b.Vc],nn,nn,nn,[],nn⟩,λ_ _=>.ok .next⟩
variable {c:Wy KK}
theorem Fx{b:SS}(o:c.map dw=A)(k:nX b)(l:0<=r)(m:qs b r c)(n:c.length<=3):OK u (BM (Pm u) f e g d A b r a):=by
 subst o;have j:∀h i,PU (c.map dw) h i=Pd c h i:=λh i=>by cases c<;>rfl
 have:=EO (u:=u) (it:=f) (acc:=e) (loc:=g) (L:=d) (t1:=a) k l m n;unfold BM;simp only[j,List.length_map];exact this
def sO(c b:Nat)(g f:Int)(j:cl)(k h d:Nat)(i:ug)(e:Nat):Spec:=
 ⟨ul 930 [.ref c],70,none,UM [(c,hM b g f k h d),(b,cm i e)] (λa=>[hM b (g+1+1) f (a 1) h d,cm i e]) (λ_=>[]),λa _=>uj (.bytes j (a 0))⟩
variable {b:ug} {d:KK}
theorem u2{c:Nat}(m:dw d=k)(i:0<=r)(n:b.size<=2^24)(o:hB b)(j:dD b r q 16=(d.1.val:Nat))(l:dD b (r+1) q 16=(d.2.val:Nat)):OK u (sO c g r q k a h e b f):=by subst m;exact na i n o j l
def envOf:Code->Env
 | .block _ a=>a
 | .compStart _ _ _ _ a=>a
 | .compLoop _ _ _ _ a=>a
 |_=>default
def kw(c:Code)(a:Nat):Nat:=match(envOf c).cells[a]? with
 |some b=>b.2
 |none=>0
def Sr(c:Code):LC:=⟨(envOf c).locals,kw c 3,kw c 2,kw c 1,kw c 0⟩
def Jy(c b:Nat)(d:ug)(e:Bool):Spec:=
 ⟨ul 975 [.ref c],293,none,UM [(c,cm d b),(393,fm),(972,fm),(693,fm)] (λa=>[cm d b,ee (a 2),uW e (a 0),fG (a 1)]) (λ_=>[]),λ_ _=>uj (.bool true)⟩
def Cc(b:Nat)(d:ug)(c:Int)(a:AL):SS:=⟨b,a 0,a 1,c,a 3,0,d,0⟩
def y3(c:Code)(d:uk)(f:Wy AL)(e:SD)(i:ug)(h:Int)(g:cl):fD:=let a:=d[0]?.getD default
 ⟨⟨Sr c,λb=>dN a b,λb=>cF a b,e.tree,df (cF a 1),hu (cF a 2),eJ d 7,cn 3 (cH f 0),e.body,0,Cc (kw c 3) i h (cH f 3),ib (0+1+1+1) e.ps.length,lk d 5 1,0,0,#[]⟩,0,0,0,0,0,0,0,0,λ_=>0,0,0,0,0,g⟩
def v7(a:SD)(b:Wy cl):SD:=⟨a.i1,a.j1,a.z1,a.i2,a.j2,a.z2,a.tree,b,a.en,a.xs,a.sg,a.body⟩
theorem wA{x x':SS}(a:x'.vs=x.vs)(b:x'.fb=x.fb):∀{d:Int} {c:Wy KK},qs x d c->qs x' d c
 |_,[],_=>trivial
 |_,h::c,⟨e,f,g⟩=>⟨by rw[a,b];exact e,by rw[a,b];exact f,wA a b g⟩
def TV:Nat:=0x10001000055410501661060177100060602f506f1111101001bb1113
theorem Jz{f:Wy (Int×Nat)}{a:SD}(I:b.toList=wd f)(C:f.length<=1000000)(G:b.size<=1000000)(J:b.extract 0 (min 60 b.size)=H)(A:(nT (f.map (·.1))).fmod 997=q)(n:H.size<=2^24)(o:hB H)
 (z:dw d=a.tree)(d1:dD H 0 q 16=(d.1.val:Nat))(t:dD H (0+1) q 16=(d.2.val:Nat))(v:dD H (0+1+1) q 4=(a.ps.length:Nat))(r:c.map dw=a.ps)(w:qs (Cc 0 H q λ_=>0) (0+1+1+1) c)(s:a.ps.length<=3)
 (y:∀(m:fD),m.q.ss.vs=H->m.q.ss.fb=q->m.q.place=ib (0+1+1+1) a.ps.length->m.W=l->OK u (J8 (Pm u) m k a D)):OK u (Jy g e b D):=by
 have p:cq u [λh i j=>Pc g e b H q,λh i j=>sO (ad h 0) (JS i 0 0) 0 q (v7 a a.ps).tree (lk i 0 1) (lk i 0 2) 0 H 0,λh i j=>jd (ad h 0) (JS i 0 0) (tk h 1) (0+1+1) q 4 ((v7 a a.ps).ps.length:Nat) (lk i 0 1) (lk i 0 2) 0 H 0,λh i j=>BM (Pm u) (jf h) (hC h) (hD h) (l9 h) (v7 a a.ps).ps (Cc (kw h 0) H q (cH j 2)) (0+1+1+1) (lk i 4 1),λh i j=>J8 (Pm u) (y3 h i j (v7 a a.ps) H q l) k (v7 a a.ps) D]:=⟨λh i j=>by rw[<-A];exact IZ I C G J,λh i j=>u2 z (by decide) n o d1 t,λh i j=>kN (by decide) n o (by decide) v,λh i j=>Fx r ⟨n,o⟩ (by decide) (wA (x:=Cc 0 H q λ_=>0) (x':=Cc (kw h 0) H q (cH j 2)) rfl rfl w) (by have:=congrArg List.length r;rw[List.length_map]at this;omega),λh i j=>y _ rfl rfl rfl rfl,cg⟩
 clear I C G J A n o z d1 t v r w y;generalize a.ps=M at*
 match M,s with
 |[],_=>exact oT 0x10001000055410501661060177100060602f506f1111101001bb13 [[5],[0,1],[0,1],[2,1,0,9,4,5],[10,9,8,7,6,4,5,1,12,13,14]] [3,2,1,0] (cJ [285,317,573]) p
 |[L],_=>exact oT TV [[5],[0,1],[0,1],[2,1,0,9,4,5],[10,9,8,7,6,4,5,1,12,13,14]] [3,2,1,0] (cJ [285,317,573]) p
 |[L,N],_=>exact oT TV [[5],[0,1],[0,1],[2,1,0,9,4,5],[10,9,8,7,6,4,5,1,12,13,14]] [3,2,1,0] (cJ [285,317,573]) p
 |[L,N,O],_=>exact oT TV [[5],[0,1],[0,1],[2,1,0,9,4,5],[10,9,8,7,6,4,5,1,12,13,14]] [3,2,1,0] (cJ [285,317,573]) p
 |_::_::_::_::_,s=>exact absurd s (by simp)
end
def eR(a:cl):cl:=a++ #[10]
theorem Fy(q:a<=c)(f:k[c]?=some 10)(m:∀b,a<=b->b<c->k[b]?≠some 10):oQ k #[10] a=some c:=by
 have t:c<k.size:=by
  rcases Nat.lt_or_ge c k.size with h|h
  ·exact h
  ·rw[Array.getElem?_eq_none h]at f;cases f
 have j:∀b,(k.extract b (b+1)==(#[10]:cl))=true ↔k[b]?=some 10:=λb=>by
  rw[beq_iff_eq];constructor
  ·intro h;have:(k.extract b (b+1))[0]?=some 10:=by rw[h];rfl
   rw[Array.getElem?_extract]at this;split at this
   ·simpa using this
   ·cases this
  ·intro h;have d:b<k.size:=by
    rcases Nat.lt_or_ge b k.size with e|e
    ·exact e
    ·rw[Array.getElem?_eq_none e]at h;cases h
   apply Array.ext
   ·rw[Array.size_extract];show _=1;omega
   ·intro i s o;have:i=0:=by have:i<1:=o;omega
    subst this;rw[Array.getElem_extract];rw[Array.getElem?_eq_getElem d]at h;injection h
 unfold oQ;rw[if_neg (by show ¬((k.size:Int)-a<1);omega)];unfold Builtin.Bytes.find?;show List.find? (λb=>k.extract b (b+1)== #[10]) ((List.range (k.size+1-(a+1))).map (· +a))=some c
 rw[List.find?_eq_some_iff_append];refine⟨(j c).2 f,(List.range (c-a)).map (· +a),((List.range (k.size-c-1)).map (· +c+1)), ?_,λp g=> ?_⟩
 ·apply List.ext_getElem
  ·simp;omega
  ·intro b n r;simp at n
   by_cases d:b<c-a
   ·rw[List.getElem_append_left (by simpa using d)];simp
   ·rw[List.getElem_append_right (by simp;omega)]
    by_cases l:b=c-a
    ·subst l;simp;omega
    ·simp only[List.length_map,List.length_range];rw[List.getElem_cons];rw[dif_neg (by omega)];simp;omega
 ·simp only[List.mem_map,List.mem_range]at g;obtain⟨b,d,rfl⟩:=g;have:=m (b+a) (by omega) (by omega);rw[Bool.not_eq_true',<-Bool.not_eq_true];intro h;exact this ((j _).1 h)
theorem e4{S:Wy UInt8}(c:k.toList.drop a=(l.toList++[10])++S)(f:(10:UInt8)∉l.toList)(g:k.size<=1000000):dA k (a:Nat) (eR l) (a+l.size)/\k.toList.drop (a+l.size+1)=S:=by
 have m:k.size-a=l.size+1+S.length:=by
  have:=congrArg List.length c;simp at this;omega
 have d:∀b,b<l.size+1+S.length->k[a+b]?=((l.toList++[10])++S)[b]?:=λb j=>by
  rw[<-c,List.getElem?_drop];simp
 refine⟨⟨by omega,by omega, ?_, ?_,by omega,g⟩, ?_⟩
 ·refine Fy (by omega) ?_ λb h i=> ?_
  ·rw[d _ (by omega),List.append_assoc,List.getElem?_append_right (by simp)];simp
  ·have:=d (b-a) (by omega);rw[show a+(b-a)=b by omega]at this;rw[this,List.append_assoc,List.getElem?_append_left (by simp;omega)];intro e;exact f (t9 e)
 ·apply Array.ext';rw[Array.toList_extract];show(k.toList.drop a).take (a+l.size+1-a)=_;rw[c,show a+l.size+1-a=(l.toList++[10]).length by simp;omega,List.take_left];unfold eR;simp
 ·rw[show a+l.size+1=a+(l.toList++[10]).length by simp;omega,<-List.drop_drop,c,List.drop_left]
structure cD where
 k:Kd
 (v l0:cl)
 ls:Wy cl
def cD.row(a:cD):dh:=(cE a.k,a.v)
def cD.hd(a:cD):cl:=(cE a.k++ #[32])++a.l0
def cD.first(a:cD):cl:=eR a.hd
def cD.UP(a:cD):Wy cl:=a.ls.map eR
def cD.len(a:cD):Nat:=(eH a.row).size
def dy:Wy cl->Wy UInt8
 |[]=>[]
 |a::b=>((#[32]++a).toList++[10])++dy b
structure RowC(r:cD):Prop where
 text:(eH r.row).toList=(r.hd.toList++[10])++dy r.ls
 n0:(10:UInt8)∉r.hd.toList
 ns:∀l∈r.ls,(10:UInt8)∉l.toList
 Vr:eQ r.first (cE r.k) (eR r.l0)
 sp:cG r.first #[32]=false
 parts:kT (eR r.l0::r.UP) (eR r.v) r.v
 w:RowW (cE r.k) r.v r.l0 r.ls
 fit:kg r.row
 size:(eH r.row).size<=500
 len:r.ls.length<=3
def dQ(a:Wy cD):Wy UInt8:=(a.map λb=>(eH b.row).toList).flatten
def eO:Wy cD->cl
 |[]=> #[10]
 |a::_=>a.first
def Ka(a:cD)(c:Nat)(b:Wy cD):dm:=⟨a.k,eR a.l0,a.UP,c+(eO b).size-1,eO b,a.v⟩
def jv:Nat->Wy cD->Wy dm
 |_,[]=>[]
 |b,a::R=>Ka a (b+a.len) R::jv (b+a.len) R
def mg(a e:cl):Wy dm->cl->Int->Prop
 |[],c,b=>c= #[10]/\0<=b/\b<=(a.size:Nat)/\a.extract b.toNat a.size=e/\a.size<=1000000
 |d::f,c,b=>eQ c (cE d.kind) d.rb/\er a b (cE d.kind) d.rb d.UP d.np d.lp d.r/\mg a e f d.lp ((d.np:Int)+1)
theorem sP{l:cl}{S:Wy UInt8}(g:l.size<=1000000):∀(b:Wy cl) (a:Nat),(∀c∈b,(10:UInt8)∉c.toList)->l.toList.drop a=dy b++S->iE l (a:Nat) (b.map eR) ((a+(dy b).length:Nat):Int)/\l.toList.drop (a+(dy b).length)=S
 |[],a,_,d=>⟨.nil _,d⟩
 |c::b,a,f,d=>by
  have j:l.toList.drop a=((#[32]++c:cl).toList++[10])++(dy b++S):=by rw[d];show _++dy b++S=_;rw[List.append_assoc]
  have k:(10:UInt8)∉(#[32]++c:cl).toList:=by
   have:=f c (.head _);simp only[Array.toList_append,List.mem_append];rintro(e|e)
   ·exact absurd e (by decide)
   ·exact this e
  obtain⟨n,m⟩:=e4 j k g;obtain⟨h,e⟩:=sP g b (a+(#[32]++c:cl).size+1) (λp o=>f p (.tail _ o)) m
  have i:a+(dy (c::b)).length=a+(#[32]++c:cl).size+1+(dy b).length:=by
   show a+(((#[32]++c:cl).toList++[10])++dy b).length=_;simp;omega
  rw[i];refine⟨.cons n ?_ ?_ ?_,e⟩
  ·unfold cG eR;rw[if_neg (by simp;omega)];simp
  ·unfold eR;apply Array.ext';simp;rw[List.take_of_length_le (by simp)]
  ·have:((a+(#[32]++c:cl).size+1:Nat):Int)=((a+(#[32]++c:cl).size:Nat):Int)+1:=by omega
   rw[<-this];exact h
theorem Fz{a:cD}(b:RowC a):a.len=a.hd.size+1+(dy a.ls).length:=by have:=congrArg List.length b.text;unfold cD.len;simp at this;omega
theorem pn:∀(R:Wy cD) (b:Nat),(∀a∈R,RowC a)->l.toList.drop b=dQ R++10::m.toList->l.size<=1000000->dA l (b:Nat) (eO R) (b+(eO R).size-1)/\cG (eO R) #[32]=false/\(eO R).size≠0
 |[],b,_,c,g=>by
  have d:l.toList.drop b=((#[]:cl).toList++[10])++m.toList:=c;obtain⟨f,_⟩:=e4 d (by simp) g;exact⟨f,by decide,by decide⟩
 |a::R,b,i,c,g=>by
  have e:=i a (.head _);have d:l.toList.drop b=(a.hd.toList++[10])++(dy a.ls++(dQ R++10::m.toList)):=by
   rw[c];show((eH a.row).toList++dQ R)++_=_;rw[e.text];simp only[List.append_assoc]
  obtain⟨f,_⟩:=e4 d e.n0 g;have h:(eO (a::R)).size=a.hd.size+1:=by show(eR a.hd).size=_;unfold eR;simp
  refine⟨?_,e.sp,by omega⟩;rw[h];exact f
theorem chain{l m:cl}:∀(R:Wy cD) (a:Nat),(∀b∈R,RowC b)->l.toList.drop a=dQ R++10::m.toList->l.size<=1000000->mg l m (jv a R) (eO R) (a+(eO R).size:Nat)
 |[],a,_,e,d=>by
  have f:l.toList.drop a=((#[]:cl).toList++[10])++m.toList:=e;obtain⟨o,g⟩:=e4 f (by simp) d;have e1:=o.le;refine⟨rfl,by omega, ?_, ?_,d⟩
  ·show((a+1:Nat):Int)<=_;have:a+(#[]:cl).size=a:=rfl;omega
  ·apply Array.ext';rw[Array.toList_extract];show(l.toList.drop (a+1)).take _=_;have k:l.toList.drop (a+1)=m.toList:=g;rw[k];rw[List.take_of_length_le];rw[<-k];simp;have e2:(eO []).size=1:=rfl;rw[e2];omega
 |b::R,a,p,e,d=>by
  have c:=p b (.head _);have f:l.toList.drop a=(b.hd.toList++[10])++(dy b.ls++(dQ R++10::m.toList)):=by
   rw[e];show((eH b.row).toList++dQ R)++_=_;rw[c.text];simp only[List.append_assoc]
  obtain⟨o,g⟩:=e4 f c.n0 d;obtain⟨n,h⟩:=sP d b.ls _ c.ns g;have r:a+b.hd.size+1+(dy b.ls).length=a+b.len:=by rw[Fz c];omega
  rw[r]at n h;have j:∀i∈R,RowC i:=λi s=>p i (.tail _ s)
  obtain⟨v,w,x⟩:=pn R (a+b.len) j h d;have t:=chain R (a+b.len) j h d;have q:(eO (b::R)).size=b.hd.size+1:=by show(eR b.hd).size=_;unfold eR;simp
  refine⟨c.Vr,⟨⟨_,_, ?_,v,c.parts⟩,w, ?_⟩, ?_⟩
  ·rw[q,show a+(b.hd.size+1)=a+b.hd.size+1 by omega];exact n
  ·show(b.ls.map eR).length<_;rw[List.length_map];have:=c.len;omega
  ·show mg l m (jv (a+b.len) R) (eO R) (((a+b.len+(eO R).size-1:Nat):Int)+1);rw[show(((a+b.len+(eO R).size-1:Nat):Int)+1)=((a+b.len+(eO R).size:Nat):Int) by omega];exact t
def x3:Wy cD->Bool->Bool->Bool->Bool
 |[],_,_,_=>true
 |d::R,c,a,b=>match d.k with
  | .parent=>x3 R c a b
  | .UK=> !a && x3 R false true b
  | .UL=> !b && x3 R false a true
  |_=>x3 R false a b
theorem n4{l m:cl}:∀(R:Wy cD) (f:Nat) (n:cl) (o:Int) (j g h e:Bool) (d:Nat),(∀c∈R,c.k= .parent->ff c.v)->d+R.length<=100000->x3 R j g h=true->mg l m (jv f R) n o->gd l m (jv f R) n o j g h e d
 |[],f,n,o,j,g,h,e,d,_,_,_,w=>w
 |c::R,f,n,o,j,g,h,e,d,q,r,a,⟨x,y,z⟩=>by
  have D:d+1+R.length<=100000:=by simp at r;omega
  have A:∀p∈R,p.k= .parent->ff p.v:=λp i=>q p (.tail _ i)
  refine⟨x,y,by simp at r;omega, ?_⟩;have i:=q c (.head _);have b:=λG s t e a=>n4 R (f+c.len) _ _ G s t e (d+1) A D a z
  unfold x3 at a;show(match c.k with
   | .parent=>_| .UK=>_| .UL=>_| .encoding=>_| .sig=>_| .tag=>_| .rename=>_| .tree=>_)
  cases C:c.k<;>simp only[C]at a i|-
  ·exact b _ _ _ _ a
  ·exact⟨λ_=>i trivial,b _ _ _ _ a⟩
  ·rw[Bool.and_eq_true,Bool.not_eq_true']at a;exact⟨a.1,b _ _ _ _ a.2⟩
  ·rw[Bool.and_eq_true,Bool.not_eq_true']at a;exact⟨a.1,b _ _ _ _ a.2⟩
  ·exact b _ _ _ _ a
  ·exact b _ _ _ _ a
  ·exact b _ _ _ _ a
  ·exact b _ _ _ _ a
def GK:Wy cD->Kd->Bool
 |[],_=>true
 |a::R,b=>kq a.k b && GK R a.k
theorem sQ{l m:cl}:∀(R:Wy cD) (d:Nat) (c:cl) (e:Int) (b:Kd),GK R b=true->mg l m (jv d R) c e->nM l m (jv d R) c e b
 |[],_,_,_,_,_,f=>f
 |j::R,d,c,e,b,a,⟨g,h,i⟩=>by
  unfold GK at a;rw[Bool.and_eq_true]at a;exact⟨g,h,a.1,sQ R _ _ _ _ a.2 i⟩
section
def qA(a:cl):Bool:=a.toList.all λb=> !(b==10)
theorem lb(a:qA k=true):(10:UInt8)∉k.toList:=λb=>by
 have:=List.all_eq_true.mp a _ b;simp at this
def BN(a:cD):Bool:=((eH a.row).toList==(a.hd.toList++[10])++dy a.ls) && qA a.hd && a.ls.all qA &&(!(a.first.toList==(#[10]:cl).toList)) &&(gg a.first #[32] 1==[cE a.k,eR a.l0]) &&(!cG a.first #[32]) &&(eI #[] (eR a.l0::a.UP)==eR a.v) &&((eR a.l0::a.UP).foldl (· + ·.size) 0==a.v.size+1) && oR (eR a.v) #[10] &&(pU (eR a.v)==a.v) &&(gg a.v #[10] (a.v.size+1)==a.l0::a.ls) &&((a.l0::a.ls).all λb=>Nat.ble b.size 500) && Nat.ble (eI #[32] [cE a.k,a.l0]).size 500 && Nat.ble (eH a.row).size 500 && Nat.ble a.ls.length 3 && Nat.ble (a.v.size+(Builtin.Bytes.occurrences a.v #[10] 0 a.v.size).length*2) 1000 && Nat.ble (cE a.k).size 500
theorem qB{a:cD}(b:BN a=true):RowC a:=by
 unfold BN at b;simp only[Bool.and_eq_true,Bool.not_eq_true',beq_iff_eq,Nat.ble_eq,List.all_eq_true]at b;obtain⟨⟨⟨⟨⟨⟨⟨⟨⟨⟨⟨⟨⟨⟨⟨⟨d,j⟩,k⟩,l⟩,m⟩,n⟩,o⟩,y⟩,p⟩,e⟩,f⟩,c⟩,w⟩,g⟩,h⟩,i⟩,x⟩:=b;have z:=c a.l0 (.head _);have A:a.v.size<=1000:=by omega
 have C:(eR a.l0).size=a.l0.size+1:=by unfold eR;simp
 have D:(eR a.v).size=a.v.size+1:=by unfold eR;simp
 exact⟨d,lb j,λs q=>lb (k s q),⟨l,m,by omega,by omega⟩,n,⟨by simp,o,by omega,by omega,by omega,p,e⟩,⟨f,λt r=>by have:=c t r;omega,by simp;omega,by omega,by omega⟩,⟨by show(eH a.row).size<=_;omega,Nat.le_trans i (by decide)⟩,g,h⟩
variable {c:UInt8}
theorem n5(h:c∉k.toList):Builtin.Bytes.occurrences k #[c] 0 k.size=[]:=by
 unfold Builtin.Bytes.occurrences;have m:∀(b:uh),(∀a∈b,(k.extract a (a+1)==(#[c]:cl))=false)->List.foldl (λ(d:uh×Nat) a=>if(decide (a>=d.snd) && k.extract a (a+1)==(#[c]:cl))=true then(a::d.fst,a+1)else d) ([],0) b=([],0):=λb=>by
  induction b with
  |nil=>intro _;rfl
  |cons a b j=>
   intro f;rw[List.foldl_cons,if_neg (by rw[f a (.head _),Bool.and_false];exact Bool.false_ne_true)];exact j λl i=>f l (.tail _ i)
 have:=m ((List.range (k.size+1-(0+1))).map λe=>e+0) λa _=>by
  rw[<-Bool.not_eq_true,beq_iff_eq];intro g;have:c∈(k.extract a (a+1)).toList:=by rw[g];simp
  rw[Array.toList_extract]at this;exact h (List.mem_of_mem_drop (List.mem_of_mem_take this))
 exact congrArg (λe=>e.fst.reverse) this
theorem BO(a:cl):a.extract 0=a:=by simp
theorem u3(b:c∉k.toList):gg k #[c] a=[k]:=by unfold gg;rw[n5 b,List.take_nil];show((#[]:WD cl).push (k.extract 0)).toList=[k];rw[BO];simp
theorem join_one(b a:cl):eI b [a]=a:=by show(#[]:cl)++a=a;simp
theorem x4{a:cl}(b:c∉k.toList):jc k #[c] a=k:=by unfold jc;rw[n5 b];show Builtin.Bytes.joined a ((#[]:WD cl).push (k.extract 0)).toList=k;rw[BO];exact join_one a k
theorem sR(h:c∉k.toList):gg ((k++ #[c])++l) #[c] 1=[k,l]:=by
 have p:((k++ #[c])++l:cl).size=k.size+1+l.size:=by simp
 have i:∀a,a<=k.size->((((k++ #[c])++l:cl).extract a (a+1)==(#[c]:cl))=decide (a=k.size)):=λa n=>by
  by_cases j:a=k.size
  ·subst j;rw[decide_eq_true rfl,beq_iff_eq];apply Array.ext';rw[Array.toList_extract];simp
  ·rw[decide_eq_false j,<-Bool.not_eq_true,beq_iff_eq];intro q;have m:(((k++ #[c])++l:cl).extract a (a+1))[0]?=some c:=by rw[q];rfl
   rw[Array.getElem?_extract,if_pos (by omega),Nat.add_zero,Array.getElem?_append,if_pos (by simp;omega),Array.getElem?_append,if_pos (by omega)]at m;exact h (by have:=Array.mem_of_getElem? m;simpa using this)
 have w:∀(e:uh),(∀a∈e,a<k.size)->List.foldl (λ(b:uh×Nat) a=>if(decide (a>=b.snd) &&((k++ #[c])++l:cl).extract a (a+1)==(#[c]:cl))=true then(a::b.fst,a+1)else b) ([],0) e=([],0):=λe=>by
  induction e with
  |nil=>intro _;rfl
  |cons a e g=>
   intro o;have:=o a (.head _);rw[List.foldl_cons,if_neg (by rw[i a (by omega),decide_eq_false (by omega:¬a=k.size),Bool.and_false];exact Bool.false_ne_true)];exact g λt r=>o t (.tail _ r)
 have v:∀(e:uh) (b:uh×Nat),(∃d,b.fst=d++[k.size])->∃d,(List.foldl (λ(b:uh×Nat) a=>if(decide (a>=b.snd) &&((k++ #[c])++l:cl).extract a (a+1)==(#[c]:cl))=true then(a::b.fst,a+1)else b) b e).fst=d++[k.size]:=λe=>by
  induction e with
  |nil=>intro b h;exact h
  |cons a e g=>
   rintro b ⟨d,f⟩;rw[List.foldl_cons];split
   ·exact g _ ⟨a::d,by rw[f];rfl⟩
   ·exact g _ ⟨d,f⟩
 have s:(Builtin.Bytes.occurrences ((k++ #[c])++l) #[c] 0 ((k++ #[c])++l:cl).size).take 1=[k.size]:=by
  unfold Builtin.Bytes.occurrences;show((List.foldl (λ(b:uh×Nat) a=>if(decide (a>=b.snd) &&((k++ #[c])++l:cl).extract a (a+1)==(#[c]:cl))=true then(a::b.fst,a+1)else b) ([],0) ((List.range (((k++ #[c])++l:cl).size+1-(0+1))).map λd=>d+0)).fst.reverse).take 1=_
  rw[p,show(List.range (k.size+1+l.size+1-(0+1))).map (λd=>d+0)=List.range k.size++(k.size::(List.range l.size).map (· +(k.size+1))) by
   rw[show k.size+1+l.size+1-(0+1)=k.size+(1+l.size) by omega,List.range_add,List.range_add,List.map_append];simp[Nat.add_assoc,Nat.add_comm,Nat.add_left_comm]]
  rw[List.foldl_append,w _ λa n=>List.mem_range.mp n,List.foldl_cons,if_pos (by rw[i _ (Nat.le_refl _)];simp)]
  obtain⟨d,f⟩:=v ((List.range l.size).map (· +(k.size+1))) (k.size::([],0).fst,k.size+1) ⟨[],rfl⟩;rw[f,List.reverse_append];rfl
 unfold gg;rw[s];show(((#[]:WD cl).push (((k++ #[c])++l:cl).extract 0 k.size)).push (((k++ #[c])++l:cl).extract (k.size+1))).toList=[k,l];have e1:((k++ #[c])++l:cl).extract 0 k.size=k:=by
  apply Array.ext';rw[Array.toList_extract];simp
 have e2:((k++ #[c])++l:cl).extract (k.size+1)=l:=by
  apply Array.ext';rw[Array.toList_extract];rw[p];simp;rw[<-List.drop_drop,show k.size=k.toList.length from by simp,List.drop_left];simp;exact List.take_of_length_le (by simp)
 rw[e1,e2];rfl
def wB:cl:= #[108,97,116,105,110,49]
def PV:cD:=⟨.encoding,wB,wB,[]⟩
def T0(a:Fin 5):cl×Wy cl:=match a with
 |0=>(#[111,110,101],[])
 |1=>(#[],[])
 |2=>(#[116,119,111],[#[114,111,119,115]])
 |3=>(#[97],[#[],#[98]])
 |4=>(#[101,110,100],[#[]])
def f4(a:MM):cD:=⟨match a.1 with|0=>.tag|1=>.rename,Bp.getD a.2.val #[],(T0 a.2).1,(T0 a.2).2⟩
def x5(a:Bool):cl:=if a then #[45,45,45,45,45,66,69,71,73,78,10,10,97,98,99,10,45,45,45,45,45,69,78,68]else #[120]
def JA(a:Bool):cD:=⟨.sig,x5 a,if a then #[45,45,45,45,45,66,69,71,73,78]else #[120],if a then[#[],#[97,98,99],#[45,45,45,45,45,69,78,68]]else[]⟩
theorem PX:RowC PV:=qB (by decide+kernel)
theorem JB(a:MM):RowC (f4 a):=qB (by
 have:∀b:Fin 2,∀c:Fin 5,BN (f4 (b,c))=true:=by decide+kernel
 exact this a.1 a.2)
theorem GL(a:Bool):RowC (JA a):=qB (by revert a;decide+kernel)
theorem BP(a:Kd):(32:UInt8)∉(cE a).toList/\(10:UInt8)∉(cE a).toList/\0<(cE a).size/\(cE a).size<=9:=by cases a<;>decide+kernel
theorem PY(a:Kd):(cE a)[0]?≠some 32:=by cases a<;>decide+kernel
theorem mN{a:Kd}(b:(10:UInt8)∉k.toList)(q:k.size<=400):RowC ⟨a,k,k,[]⟩:=by
 obtain⟨l,m,n,r⟩:=BP a;have f:eH (cE a,k)=((cE a++ #[32])++k)++ #[10]:=by unfold eH;rw[x4 b]
 have p:(eH (cE a,k)).size=(cE a).size+1+k.size+1:=by rw[f];simp;omega
 have d:(eR k).size=k.size+1:=by unfold eR;simp
 refine⟨?_, ?_,(λs g=>nomatch g),⟨?_, ?_,by show(cE a).size<=_;omega,by show(eR k).size<=_;omega⟩, ?_,⟨by simp,join_one _ _,by show(eR k).size≠0;omega,by show(eR k).size<=_;omega, ?_, ?_, ?_⟩,⟨?_, ?_,(show 1<=100000 by decide), ?_,by show(cE a).size+k.size<=_;omega⟩,⟨by show(eH (cE a,k)).size<=_;omega, ?_⟩,by show(eH (cE a,k)).size<=_;omega,(show 0<=3 by decide)⟩
 ·show(eH (cE a,k)).toList=((((cE a++ #[32])++k:cl).toList)++[10])++[];rw[f];simp
 ·show(10:UInt8)∉((cE a++ #[32])++k:cl).toList;simp only[Array.toList_append,List.mem_append];rintro((e|e)|e)
  ·exact m e
  ·exact absurd e (by decide)
  ·exact b e
 ·show((eR ((cE a++ #[32])++k)).toList==(#[10]:cl).toList)=false;rw[<-Bool.not_eq_true,beq_iff_eq];intro e;have:=congrArg List.length e;unfold eR at this;simp at this;omega
 ·show gg (eR ((cE a++ #[32])++k)) #[32] 1=[cE a,eR k];unfold eR;rw[Array.append_assoc];exact sR l
 ·show cG (eR ((cE a++ #[32])++k)) #[32]=false;unfold cG;have j:(eR ((cE a++ #[32])++k)).size=(cE a).size+1+k.size+1:=by unfold eR;simp;omega
  rw[if_neg (by rw[j];show ¬(_<((1:Nat):Int));omega),<-Bool.not_eq_true,beq_iff_eq];intro e;have c:((eR ((cE a++ #[32])++k)).extract 0 (0+1))[0]?=some 32:=by
   have:(eR ((cE a++ #[32])++k)).extract 0 (0+1)=(#[32]:cl):=e;rw[this];rfl
  rw[Array.getElem?_extract,if_pos (by omega)]at c;unfold eR at c;rw[Array.getElem?_append,if_pos (by simp;omega),Array.getElem?_append,if_pos (by simp),Array.getElem?_append,if_pos (by simpa using n)]at c;exact PY a c
 ·show[eR k].foldl (· + ·.size) 0<=_;simp;omega
 ·show oR (eR k) #[10]=true;unfold oR;rw[if_neg (by rw[d];show ¬(_<((1:Nat):Int));omega),beq_iff_eq];apply Array.ext';rw[Array.toList_extract,d];unfold eR;simp
 ·show pU (eR k)=k;unfold pU;rw[d];apply Array.ext';rw[Array.toList_extract];unfold eR;simp
 ·show gg k #[10] (k.size+1)=[k];exact u3 b
 ·intro o h;have i:o=k:=by simpa using h
  rw[i];omega
 ·show(eI #[32] [cE a,k]).size<=_;have:eI #[32] [cE a,k]=(cE a++ #[32])++k:=by
   show((#[]:cl)++cE a++ #[32])++k=_;simp
  rw[this];simp;omega
 ·show k.size+(Builtin.Bytes.occurrences k #[10] 0 k.size).length*2<=_;rw[n5 b];simp;omega
end
theorem n6(a:KK):(10:UInt8)∉(dw a).toList/\(dw a).size=40:=by
 have:∀b c:Fin 16,(qA (eF b c) && Nat.beq (eF b c).size 40)=true:=by decide+kernel
 have:=this a.1 a.2;rw[Bool.and_eq_true,Nat.beq_eq]at this;exact⟨lb this.1,this.2⟩
theorem BQ(a:Fin 3)(b:Fin 4)(c:Fin 6):(10:UInt8)∉(dk a b c).toList/\(dk a b c).size<=100:=by
 have:∀(a:Fin 3) (b:Fin 4) (c:Fin 6),(qA (dk a b c) && Nat.ble (dk a b c).size 100)=true:=by decide+kernel
 have:=this a b c;rw[Bool.and_eq_true,Nat.ble_eq]at this;exact⟨lb this.1,this.2⟩
structure In where
 k:KK
 ks:Wy KK
 i1:Fin 3
 j1:Fin 4
 z1:Fin 6
 i2:Fin 3
 j2:Fin 4
 z2:Fin 6
 en:Bool
 ms:Wy MM
 sg:WA Bool
 bd:Fin 4
def In.Vb(a:In):WA cl:=if a.en then some wB else none
def In.Vh(a:In):WA cl:=a.sg.map x5
def In.sd(a:In):SD:=⟨a.i1,a.j1,a.z1,a.i2,a.j2,a.z2,dw a.k,a.ks.map dw,a.Vb,a.ms.map ho,a.Vh,sM.getD a.bd.val #[]⟩
def lP(b:Kd)(a:cl):cD:=⟨b,a,a,[]⟩
def ie(a:Bool):Wy cD:=if a then[PV]else[]
def fq(a:WA Bool):Wy cD:=match a with
 |none=>[]
 |some b=>[JA b]
def In.rest(a:In):Wy cD:=(a.ks.map λb=>lP .parent (dw b))++([lP .UK (dk a.i1 a.j1 a.z1),lP .UL (dk a.i2 a.j2 a.z2)]++(ie a.en++a.ms.map f4))
def In.rows0(a:In):Wy cD:=lP .tree (dw a.k)::a.rest
def In.rows(a:In):Wy cD:=lP .tree (dw a.k)::(a.rest++fq a.sg)
theorem In.c0(k:In):∀i∈k.rows0,RowC i:=by
 intro i a;have h:∀b e,RowC (lP b (dw e)):=λb e=>mN (n6 e).1 (by have:=(n6 e).2;omega)
 have g:∀b c d f,RowC (lP b (dk c d f)):=λb c d f=>mN (BQ c d f).1 (by have:=(BQ c d f).2;omega)
 unfold In.rows0 In.rest at a;simp only[List.mem_cons,List.mem_append,List.mem_map,List.not_mem_nil,or_false]at a;rcases a with rfl|⟨b,_,rfl⟩|(rfl|rfl)|a|⟨j,_,rfl⟩
 ·exact h _ _
 ·exact h _ _
 ·exact g _ _ _ _
 ·exact g _ _ _ _
 ·unfold ie at a;split at a
  ·rw[List.mem_singleton]at a;subst a;exact PX
  ·cases a
 ·exact JB j
theorem In.WO(b:In):∀a∈b.rows,RowC a:=by
 intro a c;have:a∈b.rows0\/a∈fq b.sg:=by
  unfold In.rows In.rows0 at*;simp only[List.mem_cons,List.mem_append]at*;rcases c with h|h|h
  ·exact .inl (.inl h)
  ·exact .inl (.inr h)
  ·exact .inr h
 rcases this with h|h
 ·exact b.c0 a h
 ·unfold fq at h;split at h
  ·cases h
  ·rw[List.mem_singleton]at h;subst h;exact GL _
theorem sS(a:MM):(f4 a).row=ho a:=by
 have:∀(b:Fin 2) (c:Fin 5),(f4 (b,c)).row=ho (b,c):=by decide+kernel
 exact this a.1 a.2
theorem In.VT(a:In):a.rows0.map cD.row=d9 (j4 a.sd) a.sd.en (cE .encoding)++a.sd.xs:=by
 unfold In.rows0 In.rest;have e1:(a.ks.map λb=>lP .parent (dw b)).map cD.row=jP (a.ks.map dw):=by
  unfold jP;rw[List.map_map,List.map_map];rfl
 have e2:(a.ms.map f4).map cD.row=a.ms.map ho:=by
  rw[List.map_map];exact List.map_congr_left λc _=>sS c
 rw[List.map_cons,List.map_append,e1,List.map_append,List.map_append,e2];show(cE .tree,dw a.k)::(jP (a.ks.map dw)++([AW a.sd,AX a.sd]++((ie a.en).map cD.row++a.ms.map ho)))=d9 (([(cE .tree,dw a.k)]++jP (a.ks.map dw))++[AW a.sd,AX a.sd]) a.Vb (cE .encoding)++a.ms.map ho;unfold ie In.Vb;cases a.en with
 |false=>simp[d9]
 |true=>
  simp[d9];rfl
theorem In.map(a:In):a.rows.map cD.row=d9 (d9 (j4 a.sd) a.sd.en (cE .encoding)++a.sd.xs) a.sd.sg (cE .sig):=by
 rw[<-a.VT];unfold In.rows In.rows0;rw[<-List.cons_append,List.map_append];show _=d9 _ a.Vh (cE .sig);unfold fq In.Vh;cases a.sg with
 |none=>simp[d9]
 |some b=>simp only[Option.map,d9];rfl
theorem In.fin(a:In)(b:a.ms.length<=2):xM a.sd=a.rows.map cD.row:=by
 rw[a.map];unfold xM;have e1:pa a.sd=j4 a.sd:=by
  unfold pa j4;simp
 have e2:∀R,nL R a.sd.xs=R++a.sd.xs:=λR=>by
  show nL R (a.ms.map ho)=R++a.ms.map ho
  match a.ms,b with
  |[],_=>simp[nL]
  |[c],_=>simp[nL]
  |[c,d],_=>simp[nL]
  |_::_::_::_,b=>exact absurd b (by simp)
 rw[e1,e2]
theorem FA(a:Wy cD):(ng (a.map cD.row)).toList=dQ a:=by
 unfold ng dQ;have i:∀(b:Wy cl) (c:cl) (d:Nat),((b.zipIdx d).foldl (λ(f:cl) g=>(if g.2>0 then f++(#[]:cl)else f)++g.1) c).toList=c.toList++(b.map (·.toList)).flatten:=λb=>by
  induction b with
  |nil=>intro c d;simp
  |cons e b h=>
   intro c d;rw[List.zipIdx_cons,List.foldl_cons,h];simp only[List.map_cons,List.flatten_cons];split<;>simp
 have:=i (List.map eH (List.map cD.row a)) #[] 0;rw[show(List.map eH (List.map cD.row a)).map (λe:cl=>e.toList)=a.map λj=>(eH j.row).toList by rw[List.map_map,List.map_map];rfl]at this
 exact this
theorem n7(a:Wy cD)(b:cl):(cz (a.map cD.row) b).toList=dQ a++10::b.toList:=by unfold cz;simp[FA]
theorem lT:∀(R:Wy cD),(∀a∈R,RowC a)->(dQ R).length<=500*R.length
 |[],_=>Nat.le_refl _
 |a::R,b=>by
  have e:=(b a (.head _)).size;have f:=lT R λd c=>b d (.tail _ c)
  show((eH a.row).toList++dQ R).length<=_;simp;omega
section
def d1(a:cD)(b:Wy cD):eY:=⟨a.first,a.hd.size,eR a.l0,a.UP,a.len+(eO b).size-1,eO b,a.v⟩
structure jw(T msg:cl)(r:cD)(R:Wy cD):Prop where
 size:T.size<=100000
 big:0<T.size
 line:dA T 0 (d1 r R).line (d1 r R).n
 sp:cG (d1 r R).line #[32]=false
 Vr:eQ (d1 r R).line (cE r.k) (d1 r R).rb
 row:er T (((d1 r R).n:Int)+1) (cE r.k) (d1 r R).rb (d1 r R).UP (d1 r R).np (d1 r R).lp (d1 r R).r
 chain:mg T msg (jv r.len R) (d1 r R).lp (((d1 r R).np:Int)+1)
theorem lh(a:k.size<=100000):dW [k] k:=⟨by simp,join_one _ _,by simp;omega⟩
theorem Su(a:k.size<=100000):s3 [k] k:=⟨by simp,join_one _ _,by omega,by simp;omega⟩
variable {R:Wy cD}
theorem g6(b:∀c∈R,RowC c)(e:R.length<=100)(f:k.size<=1000):(cz (R.map cD.row) k).size<=100000:=by have d:=lT R b;have a:=congrArg List.length (n7 R k);simp at a;omega
theorem pp{r:cD}{msg:cl}(b:∀a∈r::R,RowC a)(h:(r::R).length<=100)(i:msg.size<=1000):jw (cz ((r::R).map cD.row) msg) msg r R:=by
 have j:=g6 b h i;have l:=n7 (r::R) msg;generalize cz ((r::R).map cD.row) msg=c at*;have e:c.toList.drop 0=dQ (r::R)++10::msg.toList:=l;obtain⟨f,n,p⟩:=pn (r::R) 0 b e (by omega);obtain⟨g,d,c3⟩:=chain (r::R) 0 b e (by omega);have e1:(eO (r::R)).size=r.hd.size+1:=by show(eR r.hd).size=_;unfold eR;simp
 have k:0<c.size:=by have:=f.le;omega
 have o:∀a∈R,RowC a:=λa m=>b a (.tail _ m)
 refine⟨j,k, ?_,n,g, ?_, ?_⟩
 ·have:=f;rw[e1,show 0+(r.hd.size+1)-1=r.hd.size by omega]at this;exact this
 ·rw[e1,show((0+(r.hd.size+1):Nat):Int)=((r.hd.size:Nat):Int)+1 by omega]at d;have e2:(Ka r (0+r.len) R).np=(d1 r R).np:=by show 0+r.len+_-1=r.len+_-1;omega
  have:=d;rw[e2]at this;exact this
 ·have e2:(Ka r (0+r.len) R).np=(d1 r R).np:=by show 0+r.len+_-1=r.len+_-1;omega
  have:=c3;rw[e2,Nat.zero_add]at this;exact this
theorem f5(a:KK):ff (dw a):=by
 refine⟨⟨a.1,a.2,by decide,by decide,λb e=> ?_⟩,(n6 a).2⟩
 have:∀c d:Fin 16,∀b:Fin 20,(decide ((eF c d)[2*b.val]?=some (dM c)) && decide ((eF c d)[2*b.val+1]?=some (dM d)))=true:=by decide+kernel
 have:=this a.1 a.2 ⟨b,e⟩;rw[Bool.and_eq_true,decide_eq_true_eq,decide_eq_true_eq]at this;simp only[Int.toNat_zero,Nat.zero_add];exact this
end
def mh(S:Sum)(a:cD):Sum:=match a.k with
 | .parent=>match S.U0 with
  |true=>{S with ps:=S.ps++[a.v]}
  |false=>S
 | .UK=>{S with U0:=false,au:=some a.v}
 | .UL=>{S with U0:=false,co:=some a.v}
 | .encoding=>{S with U0:=false,en:=(match S.en with|none=>some a.v|some b=>some b)}
 | .sig=>{S with U0:=false,sg:=S.sg++[a.v]}
 | .tag=>{S with U0:=false,E:=S.E++[(cE .tag,a.v)]}
 | .rename=>{S with U0:=false,E:=S.E++[(cE .rename,a.v)]}
 | .tree=>{S with U0:=false}
def fw(S:Sum):Wy cD->Sum
 |[]=>S
 |a::R=>fw (mh S a) R
theorem u4:∀(R:Wy cD) (a:Nat) (S:Sum),rO S (jv a R)=fw S R
 |[],_,_=>rfl
 |b::R,a,S=>by
  show rO (mF S (Ka b (a+b.len) R)) (jv (a+b.len) R)=fw (mh S b) R;rw[u4 R];rfl
theorem f6:∀(R a:Wy cD) (S:Sum),fw S (R++a)=fw (fw S R) a
 |[],_,_=>rfl
 |b::R,a,S=>f6 R a (mh S b)
theorem n8:∀(a:Wy KK) (S:Sum),S.U0=true->fw S (a.map λk=>lP .parent (dw k))={S with ps:=S.ps++a.map dw}
 |[],S,_=>by simp[fw]
 |k::a,S,b=>by
  show fw (mh S (lP .parent (dw k))) (a.map λk=>lP .parent (dw k))=_
  have c:mh S (lP .parent (dw k))={S with ps:=S.ps++[dw k]}:=by
   show(match S.U0 with|true=>{S with ps:=S.ps++[dw k]}|false=>S)=_
   rw[b]
  rw[c,n8 a _ (by exact b)];simp
theorem qC(a:MM):(f4 a).k= .tag\/(f4 a).k= .rename:=by
 obtain⟨b,c⟩:=a
 match b with
 |0=>exact .inl rfl
 |1=>exact .inr rfl
theorem lU:∀(a:Wy MM) (S:Sum),S.U0=false->fw S (a.map f4)={S with E:=S.E++a.map ho}
 |[],S,_=>by simp[fw]
 |m::a,S,c=>by
  show fw (mh S (f4 m)) (a.map f4)=_;have d:mh S (f4 m)={S with E:=S.E++[ho m]}:=by
   rw[<-sS m];have b:=qC m;unfold mh cD.row;rcases b with b|b<;>rw[b]<;>simp[<-c]
  rw[d,lU a _ (by exact c)];simp
theorem In.sum(a:In):fw rP (a.rest++fq a.sg)=⟨a.sd.ps,some (dk a.i1 a.j1 a.z1),some (dk a.i2 a.j2 a.z2),a.sd.en,a.sd.xs,vF a.sd.sg,false⟩:=by
 unfold In.rest;rw[f6,f6,n8 _ _ rfl,f6,f6];show fw (fw (fw (⟨[]++a.ks.map dw,some (dk a.i1 a.j1 a.z1),some (dk a.i2 a.j2 a.z2),none,[],[],false⟩:Sum) (ie a.en)) (a.ms.map f4)) (fq a.sg)=_;have e1:fw (⟨[]++a.ks.map dw,some (dk a.i1 a.j1 a.z1),some (dk a.i2 a.j2 a.z2),none,[],[],false⟩:Sum) (ie a.en)=⟨a.ks.map dw,some (dk a.i1 a.j1 a.z1),some (dk a.i2 a.j2 a.z2),a.Vb,[],[],false⟩:=by
  unfold ie In.Vb;cases a.en<;>rfl
 rw[e1,lU _ _ rfl];show fw (⟨a.ks.map dw,some (dk a.i1 a.j1 a.z1),some (dk a.i2 a.j2 a.z2),a.Vb,[]++a.ms.map ho,[],false⟩:Sum) (fq a.sg)=⟨a.ks.map dw,_,_,a.Vb,a.ms.map ho,vF a.Vh,false⟩;unfold fq In.Vh;cases a.sg<;>rfl
theorem qD:∀(c:Wy KK) (R:Wy cD) (a b:Bool),x3 ((c.map λk=>lP .parent (dw k))++R) true a b=x3 R true a b
 |[],_,_,_=>rfl
 |k::c,R,a,b=>qD c R a b
theorem n9:∀(R:Wy cD),(∀a∈R,a.k= .encoding\/a.k= .tag\/a.k= .rename\/a.k= .sig)->∀c,x3 R c true true=true
 |[],_,_=>rfl
 |a::R,b,c=>by
  have f:=n9 R λg d=>b g (.tail _ d)
  unfold x3;rcases b a (.head _)with e|e|e|e<;>rw[e]<;>exact f _
theorem iO(c:In):∀b∈(ie c.en++c.ms.map f4)++fq c.sg,b.k= .encoding\/b.k= .tag\/b.k= .rename\/b.k= .sig:=by
 intro b a;simp only[List.mem_append,List.mem_map]at a;rcases a with(a|⟨d,_,rfl⟩)|a
 ·unfold ie at a;split at a
  ·rw[List.mem_singleton]at a;subst a;exact .inl rfl
  ·cases a
 ·rcases qC d with e|e
  ·exact .inr (.inl e)
  ·exact .inr (.inr (.inl e))
 ·unfold fq at a;split at a
  ·cases a
  ·rw[List.mem_singleton]at a;subst a;exact .inr (.inr (.inr rfl))
theorem In.okR(a:In):Mine.x3 (a.rest++fq a.sg) true false false=true:=by unfold In.rest;rw[List.append_assoc,qD,List.append_assoc];exact n9 _ (iO a) _
theorem sU(d:In):∀c∈d.rest++fq d.sg,c.k= .parent->ff c.v:=by
 intro c a b;unfold In.rest at a;rw[List.append_assoc,List.mem_append,List.append_assoc]at a;rcases a with a|a
 ·simp only[List.mem_map]at a;obtain⟨f,_,rfl⟩:=a;exact f5 f
 ·simp only[List.cons_append,List.nil_append,List.mem_cons]at a;rcases a with rfl|rfl|a
  ·cases b
  ·cases b
  ·rcases iO d c a with e|e|e|e<;>rw[e]at b<;>cases b
def jj(a:Fin 4):Fin 6:=⟨a.val,by omega⟩
def zz(a:Fin 6):Fin 7:=⟨a.val,by omega⟩
def BR(a:Fin 4)(b:Fin 6):cl:=xg a++ #[32]++(cL b).1
def PZ(b:Fin 3)(c:Fin 4)(d:Fin 6):Bool:=let V:=dk b c d;let a:=(dv b).size-1
 Nat.ble V.size 100 && Nat.ble 2 V.size &&(Builtin.Bytes.rfind? V #[62,32] 0 V.size==some a) &&(V.extract 0 (a+1)==dv b) &&(V.extract (a+2) V.size==BR c d) && Nat.ble (a+2) V.size
theorem FC:∀(a:Fin 3) (b:Fin 4) (c:Fin 6),PZ a b c=true:=by decide+kernel
theorem JC:∀(a:Fin 4) (b:Fin 6),(pK (BR a b) #[32] 1==[(pS (jj a)).1,(iR (zz b)).1])=true:=by decide+kernel
theorem Sv(c:Fin 3)(a:Fin 4)(b:Fin 6):tL (dk c a b) (dv c) (BR a b) ((dv c).size-1) (jj a) (zz b):=by have d:=FC c a b;unfold PZ at d;simp only[Bool.and_eq_true,Nat.ble_eq,beq_iff_eq]at d;obtain⟨⟨⟨⟨⟨i,j⟩,e⟩,f⟩,g⟩,h⟩:=d;exact⟨by omega,by rw[if_neg (by omega)];exact e,f,g,by have:=JC a b;rwa[beq_iff_eq]at this,h⟩
theorem f7(c:Fin 3)(a:Fin 4)(b:Fin 6):h7 u (dk c a b) (uY c a b):=by
 have d:=pY (u:=u) (Sv c a b);have e1:∀a:Fin 4,(pS (jj a)).2=dt.getD a.val 0:=by decide+kernel
 have e2:∀b:Fin 6,(iR (zz b)).2=(cL b).2:=by decide+kernel
 rw[e1,e2]at d;exact d
def In.msg(a:In):cl:=sM.getD a.bd.val #[]
def In.WQ(a:In):cl:=cz (a.rows.map cD.row) a.msg
def In.WN(a:In):eY:=d1 (lP .tree (dw a.k)) (a.rest++fq a.sg)
def In.ds(a:In):Wy dm:=jv (lP .tree (dw a.k)).len (a.rest++fq a.sg)
structure In.Ok(x:In):Prop where
 ps:x.ks.length<=3
 ms:x.ms.length<=2
theorem sV(a:In):a.msg.size<=100:=by
 have:∀b:Fin 4,Nat.ble (sM.getD b.val #[]).size 100=true:=by decide+kernel
 have:=this a.bd;rwa[Nat.ble_eq]at this
theorem In.len(a:In)(b:a.Ok):a.rows.length<=20:=by
 have c:(ie a.en).length<=1:=by unfold ie;split<;>simp
 have d:(fq a.sg).length<=1:=by unfold fq;split<;>simp
 have:=b.ps;have:=b.ms;unfold In.rows In.rest;simp;omega
theorem In.text(a:In)(c:a.Ok)(b:cl)(d:b.size<=1000):jw (cz (a.rows.map cD.row) b) b (lP .tree (dw a.k)) (a.rest++fq a.sg):=pp a.WO (by have:=a.len c;unfold In.rows at this;omega) d
theorem In.rd(a:In)(c:a.Ok):d6 u (GC a.sd a.WQ a.WN a.ds) a.sd.sg:=by
 have i:=a.text c a.msg (by have:=sV a;omega);have g:=a.len c;have i:jw a.WQ a.msg (lP .tree (dw a.k)) (a.rest++fq a.sg):=i;have m:d1 (lP .tree (dw a.k)) (a.rest++fq a.sg)=a.WN:=rfl;have f:jv (lP .tree (dw a.k)).len (a.rest++fq a.sg)=a.ds:=rfl;have h:a.WN.r=dw a.k:=rfl;obtain⟨C,H,o,p,q,j,t7⟩:=i;rw[m]at o p q j t7;have l:ff a.WN.r:=by rw[h];exact f5 a.k
 have z:gd a.WQ a.msg a.ds a.WN.lp ((a.WN.np:Int)+1) true false false false 0:=by
  rw[<-f];exact n4 _ _ _ _ _ _ _ _ _ (sU a) (by unfold In.rows at g;simp at g|-;omega) a.okR t7
 have t:kY a.ds ⟨a.sd.ps,some (dk a.i1 a.j1 a.z1),some (dk a.i2 a.j2 a.z2),a.sd.en,a.sd.xs,vF a.sd.sg,false⟩ (dk a.i1 a.j1 a.z1) (dk a.i2 a.j2 a.z2):=by
  refine⟨?_,rfl,rfl, ?_, ?_, ?_⟩
  ·rw[<-f,u4,a.sum]
  ·show(a.ks.map dw).length<=3;rw[List.length_map];exact c.ps
  ·show(a.ms.map ho).length<=2;rw[List.length_map];exact c.ms
  ·show(vF a.Vh).length<=1;unfold In.Vh;cases a.sg<;>simp[vF]
 have v:∀b,a.sd.sg=some b->eI #[10] [b]=b/\b.size<=1000000:=by
  intro b A;refine⟨join_one _ _, ?_⟩;have d:a.sg.map x5=some b:=A;cases n:a.sg with
  |none=>rw[n]at d;cases d
  |some e=>
   rw[n]at d;injection d with s;subst s;have:∀e,Nat.ble (x5 e).size 1000000=true:=by decide+kernel
   have:=this e;rwa[Nat.ble_eq]at this
 have w:h7 u (dk a.i1 a.j1 a.z1) (uY a.i1 a.j1 a.z1):=f7 _ _ _;have x:h7 u (dk a.i2 a.j2 a.z2) (uY a.i2 a.j2 a.z2):=f7 _ _ _;have y:=lh C;unfold GC;rw[h]at j l;clear m f h g t7 c;generalize a.WN=D,a.ds=G,a.WQ=W at*;exact⟨y,o,p,q,j,l,z,t,w,x,v⟩
theorem wD:∀(b:Wy KK) (R:Wy cD) (a:Kd),a= .tree\/a= .parent->(∀e,e= .tree\/e= .parent->GK R e=true)->GK ((b.map λk=>lP .parent (dw k))++R) a=true
 |[],R,a,c,d=>d a c
 |k::b,R,a,c,d=>by
  show(kq .parent a && GK ((b.map λk=>lP .parent (dw k))++R) .parent)=true
  rw[wD b R .parent (.inr rfl) d];rcases c with rfl|rfl<;>rfl
theorem qE:∀(R:Wy cD) (c:Kd),(∀a∈R,a.k= .tag\/a.k= .rename\/a.k= .sig)->GK R c=true
 |[],_,_=>rfl
 |a::R,c,b=>by
  have f:=qE R a.k λg d=>b g (.tail _ d)
  unfold GK;rw[f];rcases b a (.head _)with e|e|e<;>rw[e]<;>rfl
theorem wE(c:In):∀b∈c.ms.map f4++fq c.sg,b.k= .tag\/b.k= .rename\/b.k= .sig:=by
 intro b a;simp only[List.mem_append,List.mem_map]at a;rcases a with⟨d,_,rfl⟩|a
 ·rcases qC d with e|e
  ·exact .inl e
  ·exact .inr (.inl e)
 ·unfold fq at a;split at a
  ·cases a
  ·rw[List.mem_singleton]at a;subst a;exact .inr (.inr rfl)
theorem In.okC(a:In):Mine.GK (a.rest++fq a.sg) .tree=true:=by
 unfold In.rest;rw[List.append_assoc];refine wD _ _ _ (.inl rfl) λb c=> ?_
 rw[List.append_assoc,List.append_assoc];show(kq .UK b &&(kq .UL .UK && Mine.GK (ie a.en++(a.ms.map f4++fq a.sg)) .UL))=true;have e1:kq .UK b=true:=by rcases c with rfl|rfl<;>rfl
 rw[e1];show Mine.GK (ie a.en++(a.ms.map f4++fq a.sg)) .UL=true;unfold ie;split
 ·show(kq .encoding .UL && Mine.GK (a.ms.map f4++fq a.sg) .encoding)=true;rw[qE _ _ (wE a)];rfl
 ·exact qE _ _ (wE a)
theorem In.Wc(a:In)(b:a.Ok)(c:k.size<=1000):nM (cz (a.rows.map cD.row) k) k a.ds a.WN.lp ((a.WN.np:Int)+1) .tree:=sQ _ _ _ _ _ a.okC (a.text b k c).chain
theorem In.r1(a:In)(c:a.Ok)(e:k.size<=1000)(d:dW A (cz (a.rows.map cD.row) k)):mu A (cz (a.rows.map cD.row) k) a.WN:=by have b:=a.text c k e;exact⟨d,b.line,b.sp,b.Vr,b.row⟩
section
def u5:Wy cD->Wy Ev
 |[]=>[]
 |a::R=>.row (cE a.k) a.v a.l0 a.ls::(a.ls.map .cont++u5 R)
theorem sW{M:Wy dh}{a:Wy Ev}{c:Nat}:∀(b:Wy cl),(∀e∈b,e.size<=100000)->jX M a [] c->jX M (b.map .cont++a) b c
 |[],_,d=>d
 |e::b,f,d=>⟨b,rfl,f e (.head _),sW b (λh g=>f h (.tail _ g)) d⟩
theorem GO{M:Wy dh}:∀(R:Wy cD) (a:Nat),(∀b∈R,RowC b)->M.drop a=R.map cD.row->a<=M.length->jX M (u5 R) [] a
 |[],a,_,c,g=>⟨rfl,by
  have:=congrArg List.length c;simp at this;omega⟩
 |b::R,a,e,c,g=>by
  have d:=e b (.head _);have h:a<M.length:=by
   have:=congrArg List.length c;simp at this;omega
  have f:M[a]?=some (cE b.k,b.v):=by
   have:(M.drop a)[0]?=some (cE b.k,b.v):=by rw[c];rfl
   simpa using this
  have e2:M.drop (a+1)=R.map cD.row:=by
   rw[<-List.drop_drop,c];rfl
  exact⟨rfl,f,d.w,by have:=d.len;simp;omega,sW b.ls (λl i=>d.w.sz l (.tail _ i)) (GO R (a+1) (λm j=>e m (.tail _ j)) e2 h)⟩
theorem wF:∀(R:Wy cD),(∀a∈R,RowC a)->(u5 R).length<=4*R.length
 |[],_=>Nat.le_refl _
 |a::R,b=>by
  have e:=(b a (.head _)).len;have f:=wF R λd c=>b d (.tail _ c)
  show(Ev.row _ _ _ _::(a.ls.map .cont++u5 R)).length<=_;simp;omega
variable {a:Wy cD}
theorem JD{b:cD}(d:M=(b::a).map cD.row)(c:∀e∈b::a,RowC e)(f:(b::a).length<=100):Ih M (u5 (b::a)):=by refine⟨GO _ 0 c (by rw[d];rfl) (Nat.zero_le _),by have:=wF _ c;omega,⟨_,_,_,_,_,rfl⟩⟩
def eA(a:Wy cl):Wy UInt8:=(a.map (·.toList)).flatten
theorem pq(a:Wy cl):(eI #[] a).toList=eA a:=by
 have g:∀(a:Wy cl) (b:cl) (c:Nat),((a.zipIdx c).foldl (λ(d:cl) e=>(if e.2>0 then d++(#[]:cl)else d)++e.1) b).toList=b.toList++(a.map (·.toList)).flatten:=λa=>by
  induction a with
  |nil=>intro b c;simp
  |cons h a f=>
   intro b c;rw[List.zipIdx_cons,List.foldl_cons,f];simp only[List.map_cons,List.flatten_cons];split<;>simp
 exact g a #[] 0
theorem sX:∀(a:Wy cl),eA ((a.map Ev.cont).map r6)=dy a
 |[]=>rfl
 |b::a=>by
  have:=sX a;show(yg b).toList++eA ((a.map Ev.cont).map r6)=((#[32]++b:cl).toList++[10])++dy a;rw[this];unfold yg;simp
theorem ig(a b:Wy cl):eA (a++b)=eA a++eA b:=by unfold eA;simp
theorem wG:∀(R:Wy cD),(∀a∈R,RowC a)->eA ((u5 R).map r6)=dQ R
 |[],_=>rfl
 |a::R,b=>by
  have f:=wG R λg e=>b g (.tail _ e)
  have c:=b a (.head _);show eA (r6 (.row (cE a.k) a.v a.l0 a.ls)::(a.ls.map Ev.cont++u5 R).map r6)=(eH a.row).toList++dQ R;rw[List.map_append,c.text,<-f];show(ow (cE a.k) a.l0).toList++eA ((a.ls.map Ev.cont).map r6++(u5 R).map r6)=_;rw[ig,sX];have d:(ow (cE a.k) a.l0).toList=a.hd.toList++[10]:=by
   unfold ow cD.hd;have:eI #[32] [cE a.k,a.l0]=(cE a.k++ #[32])++a.l0:=by
    show((#[]:cl)++cE a.k++ #[32])++a.l0=_;simp
   rw[this];simp
  rw[d];simp only[List.append_assoc]
theorem x6(a:cl):eA (vT a)=10::a.toList:=by
 unfold vT;cases b:a.size with
 |zero=>
  have:a.toList=[]:=by
   have:=Array.length_toList (xs:=a);exact List.eq_nil_of_length_eq_zero (by omega)
  rw[this];rfl
 |succ c=>
  show(#[10]:cl).toList++(a.toList++[])=_;simp
theorem ii:∀(a:Wy cl) (c:Nat),a.foldl (· + ·.size) c=c+(eA a).length
 |[],c=>by simp[eA]
 |b::a,c=>by
  rw[List.foldl_cons,ii a];show _=c+(b.toList++eA a).length;simp;omega
theorem FD(c:∀l∈a,RowC l)(h:a.length<=100)(i:k.size<=1000):s3 (h9 (u5 a) k) (cz (a.map cD.row) k)/\dW (h9 (u5 a) k) (cz (a.map cD.row) k):=by
 have j:=g6 c h i;have f:=n7 a k;have b:eA (h9 (u5 a) k)=(cz (a.map cD.row) k).toList:=by
  unfold h9;rw[ig,wG a c,x6,f]
 have d:eI #[] (h9 (u5 a) k)=cz (a.map cD.row) k:=Array.ext' (by rw[pq,b]);have m:(eA (h9 (u5 a) k)).length<=100000:=by rw[b];simpa using j
 have e:h9 (u5 a) k≠[]:=by
  intro g;have:=congrArg List.length b;rw[g]at this;rw[f]at this;simp[eA]at this
 refine⟨⟨e,d,by omega, ?_⟩,⟨e,d, ?_⟩⟩
 ·rw[ii];show 0*_+_<=_;omega
 ·rw[ii];omega
end
section
variable {c:cl}
theorem g7(b:0<c.size)(d:k[0]?≠c[0]?):cG k c=false:=by
 unfold cG;split
 ·rfl
 ·rename_i e;rw[<-Bool.not_eq_true,beq_iff_eq];intro a;refine d ?_;rw[<-a,Array.getElem?_extract,if_pos (by rw[<-a]at b;simp at b|-;omega)]
theorem pr{d:cl}(a:k=c++d):cG k c=true:=by subst a;unfold cG;rw[if_neg (by simp;omega),beq_iff_eq];apply Array.ext';rw[Array.toList_extract];simp
theorem mO(a:cD):a.first[0]?=(cE a.k)[0]?:=by
 have:=(BP a.k).2.2.1;unfold cD.first cD.hd eR
 rw[Array.getElem?_append,if_pos (by simp;omega),Array.getElem?_append,if_pos (by simp),Array.getElem?_append,if_pos this]
theorem GP(a:cl):(eR (#[32]++a))[0]?=some 32:=by unfold eR;rw[Array.getElem?_append,if_pos (by simp;omega),Array.getElem?_append,if_pos (by decide)];rfl
theorem BS(a:Kd)(b:a≠ .sig):(cE a)[0]?≠(cE .sig)[0]?:=by cases a<;>first|exact absurd rfl b|decide+kernel
theorem GQ(a:Kd):(cE a)[0]?≠(#[10]:cl)[0]?:=by cases a<;>decide+kernel
def gh:Wy cD->Wy cl
 |[]=>[]
 |a::R=>a.first::(a.ls.map λb=>eR (#[32]++b))++gh R
theorem oa:∀(b:Wy cl),eA (b.map λa=>eR (#[32]++a))=dy b
 |[]=>rfl
 |a::b=>by
  have:=oa b;show(eR (#[32]++a)).toList++eA (b.map λa=>eR (#[32]++a))=((#[32]++a:cl).toList++[10])++dy b
  rw[this];unfold eR;simp
theorem mi:∀(R:Wy cD),(∀a∈R,RowC a)->eA (gh R)=dQ R
 |[],_=>rfl
 |a::R,c=>by
  have e:=mi R λf d=>c f (.tail _ d)
  show eA ((a.first::(a.ls.map λb=>eR (#[32]++b)))++gh R)=(eH a.row).toList++dQ R
  rw[ig,e,(c a (.head _)).text];show(a.first.toList++eA (a.ls.map λb=>eR (#[32]++b)))++_=_
  rw[oa];unfold cD.first eR
  simp
theorem sY{k:cl}{S:Wy UInt8}{a:WE}(l:k.size<=1000000):∀(c:Wy cl) (d:Nat) (f:Wy cl),(∀b∈c,(10:UInt8)∉b.toList)->k.toList.drop d=dy c++S->f.length+c.length<=1000000->(k.toList.drop (d+(dy c).length)=S->pd k false ((d+(dy c).length:Nat):Int) (f++c.map λb=>eR (#[32]++b)) a)->pd k false (d:Nat) f a
 |[],d,f,_,h,_,g=>by simpa[dy]using g h
 |b::c,d,f,j,h,i,g=>by
  have n:k.toList.drop d=((#[32]++b:cl).toList++[10])++(dy c++S):=by rw[h];show _++dy c++S=_;rw[List.append_assoc]
  have o:(10:UInt8)∉(#[32]++b:cl).toList:=by
   have:=j b (.head _);simp only[Array.toList_append,List.mem_append];rintro(e|e)
   ·exact absurd e (by decide)
   ·exact this e
  obtain⟨r,p⟩:=e4 n o l;have m:d+(dy (b::c)).length=d+(#[32]++b:cl).size+1+(dy c).length:=by
   show d+(((#[32]++b:cl).toList++[10])++dy c).length=_;simp;omega
  rw[m]at g;refine .keep r (g7 (by decide) (by rw[GP];decide+kernel)) (g7 (by decide) (by rw[GP];decide)) (by simp at i;omega) ?_;have:=sY l c (d+(#[32]++b:cl).size+1) (f++[eR (#[32]++b)]) (λt s=>j t (.tail _ s)) p (by simp at i|-;omega) λq=>by
   have:=g q;simpa using this
  rw[show(((d+(#[32]++b:cl).size:Nat):Int)+1)=((d+(#[32]++b:cl).size+1:Nat):Int) by omega];exact this
theorem GR{S:Wy UInt8}{a:WE}(p:k.size<=1000000)(c:Wy cD):∀(d:Nat) (e:Wy cl),(∀b∈c,RowC b)->(∀b∈c,b.k≠ .sig)->k.toList.drop d=dQ c++S->e.length+4*c.length<=1000000->(k.toList.drop (d+(dQ c).length)=S->pd k false ((d+(dQ c).length:Nat):Int) (e++gh c) a)->pd k false (d:Nat) e a:=by
 induction c with
 |nil=>
  intro d e _ _ g _ i;have:=i g;rw[show gh []=[]from rfl,List.append_nil]at this;exact this
 |cons b c x=>
  intro d e m o g s i;have f:=m b (.head _);have r:k.toList.drop d=(b.hd.toList++[10])++(dy b.ls++(dQ c++S)):=by
   rw[g];show((eH b.row).toList++dQ c)++_=_;rw[f.text];simp only[List.append_assoc]
  obtain⟨w,t⟩:=e4 r f.n0 p;have e2:(dQ (b::c)).length=b.hd.size+1+(dy b.ls).length+(dQ c).length:=by
   show((eH b.row).toList++dQ c).length=_;rw[f.text];simp;omega
  have y:=f.len;simp only[List.length_cons]at s;refine .keep w (g7 (by decide) (by rw[show eR b.hd=b.first from rfl,mO];exact BS _ (o b (.head _)))) (g7 (by decide) (by rw[show eR b.hd=b.first from rfl,mO];exact GQ _)) (by omega) ?_;rw[show(((d+b.hd.size:Nat):Int)+1)=((d+b.hd.size+1:Nat):Int) by omega];refine sY p b.ls _ _ f.ns t (by simp;omega) λv=> ?_
  refine x _ _ (λl h=>m l (.tail _ h)) (λl h=>o l (.tail _ h)) v (by simp;omega) λn=> ?_
  have e3:d+b.hd.size+1+(dy b.ls).length+(dQ c).length=d+(dQ (b::c)).length:=by omega
  rw[e3]at n|-;have:=i n;have q:e++[eR b.hd]++(b.ls.map λj=>eR (#[32]++j))++gh c=e++gh (b::c):=by
   show _=e++((b.first::(b.ls.map λj=>eR (#[32]++j)))++gh c)
   simp[cD.first]
  rw[q];exact this
theorem x7(b:a<=k.size):k.extract (dE (some (a:Int)) k.size 0).toNat (dE none k.size k.size).toNat=k.extract a k.size:=by
 have e1:(dE (some (a:Int)) (k.size:Nat) 0).toNat=a:=by
  simp only[dE];rw[if_neg (by omega)];omega
 have e2:(dE none (k.size:Nat) (k.size:Nat)).toNat=k.size:=by
  simp only[dE];omega
 rw[e1,e2]
theorem GS{k:cl}{S:Wy UInt8}{a:WE}{A:Wy cl}(j:k.size<=1000000):∀(f:Wy cl) (b:Nat),(∀c∈f,(10:UInt8)∉c.toList)->k.toList.drop b=dy f++S->(k.toList.drop (b+(dy f).length)=S->pd k true ((b+(dy f).length:Nat):Int) A a)->pd k true (b:Nat) A a
 |[],b,_,h,g=>by simpa[dy]using g h
 |c::f,b,i,h,g=>by
  have m:k.toList.drop b=((#[32]++c:cl).toList++[10])++(dy f++S):=by rw[h];show _++dy f++S=_;rw[List.append_assoc]
  have n:(10:UInt8)∉(#[32]++c:cl).toList:=by
   have:=i c (.head _);simp only[Array.toList_append,List.mem_append];rintro(e|e)
   ·exact absurd e (by decide)
   ·exact this e
  obtain⟨p,o⟩:=e4 m n j;have l:b+(dy (c::f)).length=b+(#[32]++c:cl).size+1+(dy f).length:=by
   show b+(((#[32]++c:cl).toList++[10])++dy f).length=_;simp;omega
  rw[l]at g;refine .cont p (pr (d:=c++ #[10]) (by unfold eR;simp)) ?_;rw[show(((b+(#[32]++c:cl).size:Nat):Int)+1)=((b+(#[32]++c:cl).size+1:Nat):Int) by omega];exact GS j f _ (λr q=>i r (.tail _ q)) o g
end
section
variable {a:Wy UInt8}
theorem BU(g:l.size<=1000000)(b:l.toList.drop e=10::a):dA l (e:Nat) #[10] e/\l.extract (dE (some (e:Int)) l.size 0).toNat (dE none l.size l.size).toNat=⟨10::a⟩:=by
 have d:l.toList.drop e=((#[]:cl).toList++[10])++a:=b;obtain⟨c,_⟩:=e4 d (by simp) g;have f:e<=l.size:=by have:=c.le;omega
 refine⟨c, ?_⟩;rw[x7 f];apply Array.ext';rw[Array.toList_extract];show(l.toList.drop e).take _=_;rw[b,List.take_of_length_le];rw[<-b];simp
theorem BV(d:In):∀b∈d.rest,b.k≠ .sig:=by
 intro b a;unfold In.rest at a;simp only[List.mem_append,List.mem_map,List.mem_cons,List.not_mem_nil,or_false]at a;rcases a with⟨f,_,rfl⟩|(rfl|rfl)|a|⟨c,_,rfl⟩
 ·exact λe=>nomatch e
 ·exact λe=>nomatch e
 ·exact λe=>nomatch e
 ·unfold ie at a;split at a
  ·rw[List.mem_singleton]at a;subst a;exact λe=>nomatch e
  ·cases a
 ·rcases qC c with e|e<;>rw[e]<;>exact λe=>nomatch e
theorem ob:∀(R:Wy cD),(∀a∈R,RowC a)->(gh R).length<=4*R.length
 |[],_=>Nat.le_refl _
 |a::R,b=>by
  have f:=(b a (.head _)).len;have g:=ob R λe c=>b e (.tail _ c)
  show(a.first::(a.ls.map λd=>eR (#[32]++d))++gh R).length<=_
  simp;omega
theorem Kb:cG (#[10]:cl) (cE .sig)=false/\cG (#[10]:cl) #[10]=true/\cG (#[10]:cl) #[32]=false:=by decide+kernel
theorem strip_end(b:Bool)(h:l.size<=1000000)(g:l.toList.drop e=10::a)(c:A.length<=1000000):pd l b (e:Nat) A ⟨b,e,(e:Int)+1,A++[⟨10::a⟩]⟩:=by
 obtain⟨d,f⟩:=BU h g;cases b with
 |false=>exact .Wk d Kb.1 Kb.2.1 f c
 |true=>exact .Wd d Kb.2.2 Kb.1 Kb.2.1 f c
variable {b:cD}
theorem BW(c:RowC b)(n:b.k= .sig)(f:l.size<=1000000)(h:l.toList.drop e=(eH b.row).toList++10::a)(j:A.length<=1000000):pd l false (e:Nat) A ⟨true,((e+b.hd.size+1+(dy b.ls).length:Nat):Int),((e+b.hd.size+1+(dy b.ls).length:Nat):Int)+1,A++[⟨10::a⟩]⟩:=by
 have i:l.toList.drop e=(b.hd.toList++[10])++(dy b.ls++10::a):=by
  rw[h,c.text];simp only[List.append_assoc]
 obtain⟨o,g⟩:=e4 i c.n0 f;refine .sig o ?_ ?_
 ·refine pr (d:=(#[32]++b.l0)++ #[10]) ?_;unfold eR cD.hd;rw[n];simp only[Array.append_assoc]
 ·rw[show(((e+b.hd.size:Nat):Int)+1)=((e+b.hd.size+1:Nat):Int) by omega];exact GS f b.ls _ c.ns g λm=>strip_end true f m j
theorem JE(b:In):∀a∈b.rest,RowC a:=λa c=>b.c0 a (.tail _ c)
theorem x8(b:In):fq b.sg=[]\/∃a,fq b.sg=[a]/\RowC a/\a.k= .sig:=by
 cases b.sg with
 |none=>exact .inl rfl
 |some c=>exact .inr ⟨JA c,rfl,GL c,rfl⟩
theorem x9(a b:Wy cD):dQ (a++b)=dQ a++dQ b:=by unfold dQ;simp
theorem kx(b:cD)(a:Wy cD):dQ (b::a)=(eH b.row).toList++dQ a:=rfl
theorem BX{c d:Wy cD}{a B:cl}(h:RowC b)(q:b.ls=[])(tk:b.k≠ .sig)(g:∀e∈c,RowC e)(p:∀e∈c,e.k≠ .sig)(v:d=[]\/∃e,d=[e]/\RowC e/\e.k= .sig)(D:c.length<=20)(x:l.toList=dQ (b::(c++d))++10::a.toList)(y:B.toList=dQ (b::c)++10::a.toList)(H:l.size<=100000)(I:B.size<=100000):∃f,k7 l B f:=by
 have G:=ob c g;have t:l.toList.drop 0=(b.hd.toList++[10])++(dQ c++(dQ d++10::a.toList)):=by
  rw[List.drop_zero,x,kx,h.text,q,x9];simp[dy]
 obtain⟨C,i⟩:=e4 t h.n0 (by omega);have e1:cG b.first (cE .sig)=false:=g7 (by decide) (by rw[mO];exact BS _ tk)
 have e2:cG b.first #[10]=false:=g7 (by decide) (by rw[mO];exact GQ _)
 have n:([b.first]++gh c).length<=1000000:=by simp;omega
 have A:∃f:WE,f.bs=([b.first]++gh c)++[⟨10::a.toList⟩]/\pd l false ((0+b.hd.size+1:Nat):Int) [b.first] f:=by
  rcases v with rfl|⟨e,rfl,r,w⟩
  ·exact⟨⟨false,_,_,_⟩,rfl,GR (by omega) c _ _ g p i (by simp;omega) λj=>strip_end false (by omega) j n⟩
  ·have s:dQ [e]=(eH e.row).toList:=by rw[kx];exact List.append_nil _
   rw[s]at i;exact⟨⟨true,_,_,_⟩,rfl,GR (by omega) c _ _ g p i (by simp;omega) λj=>BW r w (by omega) j n⟩
 obtain⟨f,m,z⟩:=A;have o:eA (([b.first]++gh c)++[⟨10::a.toList⟩])=B.toList:=by
  rw[ig,ig,mi _ g,y,kx,h.text,q];unfold cD.first eR eA
  simp[dy]
 refine⟨f,⟨_,_,C,e1,e2, ?_⟩,⟨?_, ?_,by omega, ?_⟩⟩
 ·rw[show((0+b.hd.size:Nat):Int)+1=((0+b.hd.size+1:Nat):Int) by omega];exact z
 ·rw[m];simp
 ·rw[m];exact Array.ext' (by rw[pq,o])
 ·rw[m,ii,o];show 0*_+_<=_;simp;omega
theorem In.strip(b:In)(f:b.Ok){a:cl}(d:a.size<=1000):∃l,k7 (cz (b.rows.map cD.row) a) (cz (b.rows0.map cD.row) a) l:=by
 have c:=b.len f;have h:=g6 b.WO (by omega) d;have j:=n7 b.rows a;have k:=n7 b.rows0 a;have i:=g6 b.c0 (R:=b.rows0) (by unfold In.rows0;unfold In.rows at c;simp at c|-;omega) d;have g:b.rest.length<=20:=by unfold In.rows at c;simp at c;omega
 exact BX (b.WO _ (.head _)) rfl (λe=>nomatch e) (JE b) (BV b) (x8 b) g j k h i
end
section
def In.TZ(a:In):Wy dh:=a.rows.map cD.row
def In.Vp(a:In):Wy Ev:=u5 a.rows
structure BY(u:WB)(x:In)(vs:ug)(fb p:Int)(e:Bool):Prop where
 ok:∀(z:nZ) cc a tq l,z.T=x.sd.tree->z.msg=x.sd.body->z.ss.vs=vs->z.ss.fb=fb->z.place=p->z.XS.size=x.TZ.length->OK u (n2 (Pm u) z x.sd.ps x.TZ cc a tq l e)
theorem In.Wm(a:In)(b:a.Ok):xM a.sd=a.TZ:=a.fin b.ms
theorem In.evR(a:In)(b:a.Ok):Ih a.TZ a.Vp:=JD rfl a.WO (by have:=a.len b;unfold In.rows at this;omega)
theorem In.V0(b:In):ko b.sd.en:=λe d=>by
 have a:b.Vb=some e:=d;unfold In.Vb at a;split at a
 ·injection a with c;subst c;decide
 ·cases a
theorem In.VJ(b:In):ko b.sd.sg:=λg f=>by
 have a:b.sg.map x5=some g:=f;cases c:b.sg with
 |none=>rw[c]at a;cases a
 |some d=>
  rw[c]at a;injection a with e;subst e;cases d<;>decide
variable {a:SD}
theorem In.VY(b:In)(c:b.Ok)(e1:a.ps=b.sd.ps)(e2:a.xs=b.sd.xs)(e3:a.en=b.sd.en)(d:a.sg=b.sd.sg)(e:a.body.size<=1000000)(e6:xM a=xM b.sd):mr a b.Vp:=by
 refine⟨?_, ?_,by rw[e3];exact b.V0,by rw[d];exact b.VJ,e,by rw[e6,b.Wm c];exact b.evR c⟩
 ·rw[e1];show(b.ks.map dw).length<=3;rw[List.length_map];exact c.ps
 ·rw[e2];show(b.ms.map ho).length<=2;rw[List.length_map];exact c.ms
theorem dK(a:In):a.sd.body.size<=100:=sV a
theorem In.ch(a:In)(b:a.Ok){msg:cl}(c:msg.size<=1000):s3 (h9 a.Vp msg) (cz a.TZ msg)/\dW (h9 a.Vp msg) (cz a.TZ msg):=FD a.WO (by have:=a.len b;omega) c
theorem li{a:Wy cD}(f:∀b∈a,RowC b)(i:a≠[])(n:a.length<=100)(o:k.size<=1000):OK u (eN c d H (a.map cD.row) k e):=by
 have r:=g6 f n o;have m:∀b∈a.map cD.row,kg b:=λb g=>by
  rw[List.mem_map]at g;obtain⟨h,l,rfl⟩:=g;exact(f h l).fit
 have p:((a.map cD.row).map eH).foldl (· + ·.size) 0<=16777216:=by
  rw[ii];have q:=lT a f;have j:eA ((a.map cD.row).map eH)=dQ a:=by unfold eA dQ;rw[List.map_map,List.map_map];rfl
  rw[j];omega
 exact yZ m (by simpa using i) (by rw[List.length_map];omega) (by omega) p
theorem In.ne(a:In):a.rows≠[]:=by unfold In.rows;simp
theorem BZ(b:a.xs=[]):v0 a=a:=by obtain⟨e,g,m,f,h,n,k,i,d,l,j,c⟩:=a;simp only at b;subst b;rfl
variable {c:ui}
theorem Uy{a:In}(i:a.Ok)(m:BY u a H r s D){b:fD}(x:b.q.ss.vs=H)(y:b.q.ss.fb=r)(z:b.q.place=s)(A:b.q.XS.size=a.TZ.length)(C:b.W=cz a.TZ a.sd.body):OK u (qx (Pm u) b a.sd a.sd.en a.sd.sg a.sd.xs.length (cL a.sd.z1).2.2 (cL a.sd.z2).2.2 a.TZ d v e c D):=by
 have h:∀g:nZ,g.T=a.sd.tree->g.msg=a.sd.body->g.ss=b.q.ss->g.place=b.q.place->g.XS=b.q.XS->OK u (n2 (Pm u) g a.sd.ps a.TZ d v e c D):=λg n o l p t=>m.ok g d v e c n o (by rw[l];exact x) (by rw[l];exact y) (by rw[p];exact z) (by rw[t];exact A)
 have j:a.sd.xs.length<=2:=by show(a.ms.map ho).length<=2;rw[List.length_map];exact i.ms
 have I:mr a.sd a.Vp:=a.VY i rfl rfl rfl rfl (by have:=dK a;omega) rfl;have G:=(a.ch i (msg:=a.sd.body) (by have:=dK a;omega)).1;generalize a.sd=f at*
 match k:f.xs,j with
 |[],_=>
  cases e1:(cL f.z1).2.2 with
  |true=>exact Fg (z1:=true) h
  |false=>
   cases e2:(cL f.z2).2.2 with
   |true=>exact Fh (z1:=true) (z2:=true) h
   |false=>
    refine Fj h ?_;have w:v1 f f.en f.sg=f:=by
     show v0 f=f;exact BZ k
    rw[w,<-Jn e1 e2,C];have:=PA (u:=u) (q:=b.md) (v:=f) e1 e2 (by rw[BZ k];exact I) G;rw[BZ k]at this;exact this
 |[J],_=>exact Fe h
 |[J,L],_=>exact Ff h
 |_::_::_::_,j=>exact absurd j (by simp)
theorem Uz{a:In}(f:a.Ok)(j:BY u a H r s D){b:sI}(n:b.y.q.ss.vs=H)(o:b.y.q.ss.fb=r)(p:b.y.q.place=s)(t:b.y.q.XS.size=a.TZ.length)(h:b.y.W=cz a.TZ a.sd.body)(w:b.bs=h9 a.Vp a.sd.body):OK u (Fk (Pm u) b a.sd a.sd.xs.length (cL a.sd.z1).2.2 (cL a.sd.z2).2.2 a.TZ a.Vp d v e c D):=by
 have x:=(a.ch f (msg:=a.sd.body) (by have:=dK a;omega)).1;have i:hO.size<=1000:=by decide
 refine Jo (by rw[w,h];exact x) (a.VY f rfl rfl rfl rfl (by show hO.size<=_;omega) rfl) (a.ch f i).1 (λz=>li a.WO a.ne (by have:=a.len f;omega) i) λA g k l m=>Uy f j (by rw[g];exact n) (by rw[g];exact o) (by rw[k];exact p) (by rw[l];exact t) (by rw[m];exact h)
end
section
theorem In.rdW(a:In)(b:a.Ok):d6 u (GC a.sd (cz a.TZ a.sd.body) a.WN a.ds) a.sd.sg:=a.rd b
theorem In.Vm(a:In)(b:a.Ok):a.sd.ps.length<=3:=by show(a.ks.map dw).length<=3;rw[List.length_map];exact b.ps
theorem In.VV(a:In)(b:a.Ok):a.sd.xs.length<=2:=by show(a.ms.map ho).length<=2;rw[List.length_map];exact b.ms
theorem In.fc(a:In)(d:a.Ok)(b:CQ)(e1:b.bs=h9 a.Vp a.sd.body)(e2:b.T=a.sd.tree)(e3:b.A=dv a.sd.i1)(j:b.C=dv a.sd.i2):OK u (ED (Pm u) b a.sd.ps (dt.getD a.sd.j1.val 0) (dt.getD a.sd.j2.val 0) c v e L):=by
 have f:a.sd.body.size<=1000:=by have:=dK a;omega
 have n:ff b.T:=by rw[e2];exact f5 a.k
 have l:∀g∈a.sd.ps,ff g:=λg k=>by
  have i:g∈a.ks.map dw:=k;rw[List.mem_map]at i;obtain⟨o,_,rfl⟩:=i;exact f5 o
 have m:mu b.bs (cz a.TZ a.sd.body) a.WN:=by
  rw[e1];exact a.r1 d f (a.ch d f).2
 exact IT ⟨a.Vm d,l,n⟩ (by rw[e3];exact λh p=>A1 _) (by rw[j];exact λh p=>A1 _) (λh=>uN _) (λh=>uN _) m (a.Wc d f)
variable {a:In}
theorem UA(f:a.Ok)(j:BY u a H r s D){b:sI}(o:b.y.q.ss.vs=H)(p:b.y.q.ss.fb=r)(t:b.y.q.place=s)(w:b.y.q.XS.size=a.TZ.length)(h:b.y.W=cz a.TZ a.sd.body)(i:b.bs=h9 a.Vp a.sd.body):OK u (Fl (Pm u) b a.sd a.sd.xs.length (cL a.sd.z1).2.2 (cL a.sd.z2).2.2 a.TZ c v e L D):=by
 have x:=(a.ch f (msg:=a.sd.body) (by have:=dK a;omega)).1;refine Jp (d:=a.WN) (ds:=a.ds) (Vp:=a.Vp) ?_ λz g k l m n=>Uz f j (by rw[g];exact o) (by rw[g];exact p) (by rw[k];exact t) (by rw[l];exact w) (by rw[m];exact h) (by rw[n];exact i)
 rw[h,i];exact OV x (a.rdW f) (a.Vm f) (.inl ⟨_,_,rfl,rfl⟩) ⟨_,_,rfl,rfl⟩
def In.Ba(a:In):cl:=cz (a.rows0.map cD.row) a.sd.body
theorem UB(d:a.Ok)(i:BY u a H r s D){b:Jq}(o:b.y.q.ss.vs=H)(p:b.y.q.ss.fb=r)(q:b.y.q.place=s)(t:b.y.q.XS.size=a.TZ.length)(f:b.y.W=cz a.TZ a.sd.body)(w:b.Ba=a.Ba):OK u (Fm (Pm u) b a.sd a.sd.xs.length (cL a.sd.z1).2.2 (cL a.sd.z2).2.2 a.TZ c v e L D):=by
 have h:a.sd.body.size<=1000:=by have:=dK a;omega
 have x:=(a.ch d h).1;obtain⟨G,A⟩:=a.strip d h;have z:mr a.sd a.Vp:=a.VY d rfl rfl rfl rfl (by omega) rfl;exact Jr (ze:=G) z (by rw[f];exact x) (by rw[f,w];exact A) (λC e1 e2 e3 n=>a.fc d C e1 e2 e3 n) λI g j k l m=>UA d i (by rw[g];exact o) (by rw[g];exact p) (by rw[j];exact q) (by rw[k];exact t) (by rw[l];exact f) m
theorem UC(g:a.Ok)(i:BY u a H r s D){b:s4}(j:b.y.q.ss.vs=H)(k:b.y.q.ss.fb=r)(l:b.y.q.place=s)(m:b.y.q.XS.size=a.TZ.length)(h:b.y.W=cz a.TZ a.sd.body)(n:b.Ba=a.Ba):OK u (BG (Pm u) b f d a.sd a.sd.xs.length (cL a.sd.z1).2.2 (cL a.sd.z2).2.2 a.TZ c v e L D):=by
 have o:a.sd.body.size<=1000:=by have:=dK a;omega
 have p:=g6 a.WO (by have:=a.len g;omega) o;refine Ju (Jt ?_ ?_)
 ·show s3 [b.y.W] b.y.W;rw[h];exact Su p
 ·exact UB g i j k l m h n
variable {b:fD}
theorem yh(e:a.Ok)(k:BY u a H r s D)(p:b.q.ss.vs=H)(t:b.q.ss.fb=r)(v:b.q.place=s)(i:b.q.XS.size=(a.rows0.map cD.row).length)(g:b.W=cz a.TZ a.sd.body):OK u (u0 (Pm u) b a.Ba c a.sd a.sd.xs.length (cL a.sd.z1).2.2 (cL a.sd.z2).2.2 (a.rows0.map cD.row) D (PL a.sd.sg b.q.XS) (Cb a.sd.sg)):=by
 have w:a.sd.body.size<=1000:=by have:=dK a;omega
 have j:=a.len e;have I:a.rows0.length<=20:=by unfold In.rows0;unfold In.rows at j;simp at j|-;omega
 have f:d9 (a.rows0.map cD.row) a.sd.sg (cE .sig)=a.TZ:=by rw[a.VT,<-a.map];rfl
 refine Fs (d:=a.WN) (ds:=a.ds) i (by rw[i,List.length_map];omega) (by rw[f,g]) ?_ ?_ ?_
 ·rw[f];exact λx C M y=>li a.WO a.ne (by omega) w
 ·rw[g];exact λy=>H1 (a.rdW e) (a.Vm e) ⟨_,_,rfl,rfl⟩ ⟨_,_,rfl,rfl⟩
 ·rw[f];exact λN J G A z L x h l m n o=>UC e k (by rw[h];exact p) (by rw[h];exact t) (by rw[l];exact v) m (by rw[n];exact g) o
theorem UD(c:a.Ok)(g:BY u a H r s D)(l:b.q.ss.vs=H)(m:b.q.ss.fb=r)(n:b.q.place=s)(o:b.W=cz a.TZ a.sd.body):OK u (u1 (Pm u) b a.Ba a.sd (cL a.sd.z1).2.2 (cL a.sd.z2).2.2 (j4 a.sd) D (PO a.sd.en b.q.XS) (Cb a.sd.en)):=by
 have t:a.sd.body.size<=1000:=by have:=dK a;omega
 have f:=a.len c;have w:a.rows0.length<=20:=by unfold In.rows0;unfold In.rows at f;simp at f|-;omega
 have k:a.rows0≠[]:=by unfold In.rows0;simp
 have d:d9 (j4 a.sd) a.sd.en (cE .encoding)++a.sd.xs=a.rows0.map cD.row:=a.VT.symm;have p:(j4 a.sd).length<=900:=by
  have:=a.Vm c;unfold j4 jP;simp;omega
 refine Fu p (a.VV c) (by rw[d];rfl) ?_ ?_
 ·rw[d];exact λx v A y=>li a.c0 k (by omega) t
 ·rw[d];exact λC z e h i j=>yh c g (by rw[e];exact l) (by rw[e];exact m) (by rw[h];exact n) i (by rw[j];exact o)
end
section
structure FE(vs:ug)(fb:Int)(x:In):Prop where
 ok:x.Ok
 k1:dD vs 0 fb 16=(x.k.1.val:Nat)
 k2:dD vs (0+1) fb 16=(x.k.2.val:Nat)
 n:dD vs (0+1+1) fb 4=(x.sd.ps.length:Nat)
 ks:qs (Cc 0 vs fb λ_=>0) (0+1+1+1) x.ks
 dr:∃kE,drawn (Cc 0 vs fb λ_=>0) (ib (0+1+1+1) x.sd.ps.length) x.sd kE x.ms/\Fw[kE]?=some x.sd.en
 sg:∃k3:Nat,dD vs (p7 (ib (0+1+1+1) x.sd.ps.length) x.sd.xs.length) fb 3=(k3:Nat)/\Ft[k3]?=some x.sd.sg
 bd:∃k4:Nat,dD vs (p7 (ib (0+1+1+1) x.sd.ps.length) x.sd.xs.length+1) fb 4=(k4:Nat)/\sM[k4]?=some x.sd.body
def JF(a:In):Int:=p7 (ib (0+1+1+1) a.sd.ps.length) a.sd.xs.length+1+1
theorem jx:∀(n:Nat) (a:Int),0<=a->0<=ib a n
 |0,a,b=>b
 |n+1,a,b=>jx n (a+1+1) (by omega)
theorem B0{p:Int}{n:Nat}(a:0<=p):0<=p7 p n:=jx n _ (by omega)
theorem B1{s s':SS}{c:SD}{b:Wy MM}(d:s'.vs=s.vs)(e:s'.fb=s.fb)(o:drawn s q c a b):drawn s' q c a b:=by obtain⟨f,g,h,i,j,k,l,m,n⟩:=o;unfold drawn;rw[d,e];exact⟨f,g,h,i,j,k,l,m,qz d e n⟩
variable {b:fD} {a:In}
theorem c7(d:FE H r a)(o:H.size<=2^24)(l:hB H)(h:BY u a H r (JF a) D)(c:b.q.ss.vs=H)(f:b.q.ss.fb=r)(e:b.q.place=p7 (ib (0+1+1+1) a.sd.ps.length) a.sd.xs.length)(k:b.W=cz a.TZ a.sd.body):OK u (J7 (Pm u) b a.Ba a.sd (cL a.sd.z1).2.2 (cL a.sd.z2).2.2 D):=by obtain⟨s,s1,x⟩:=d.sg;obtain⟨t,v,w⟩:=d.bd;have m:=B0 (p:=ib (0+1+1+1) a.sd.ps.length) (n:=a.sd.xs.length) (jx _ _ (by decide));refine PP (k3:=s) (k4:=t) ⟨by rw[c];exact o,by rw[c];exact l⟩ (by rw[e];exact m) (by rw[c,f,e];exact s1) (by rw[c,f,e];exact v) x w (a.Vm d.ok) rfl rfl ?_;exact λy g i j=>UD d.ok h (by rw[g];exact c) (by rw[g];exact f) (by rw[i,e];rfl) (by rw[j];exact k)
theorem c3(e:FE H r a)(i:H.size<=2^24)(h:hB H)(j:BY u a H r (JF a) D)(d:b.q.ss.vs=H)(g:b.q.ss.fb=r)(f:b.q.place=ib (0+1+1+1) a.sd.ps.length)(m:b.W=cz a.TZ a.sd.body):OK u (J8 (Pm u) b a.Ba a.sd D):=by
 obtain⟨J,l,x⟩:=e.dr;have I:nX b.q.ss:=⟨by rw[d];exact i,by rw[d];exact h⟩;have G:0<=b.q.place:=by rw[f];exact jx _ _ (by decide)
 have z:drawn b.q.ss b.q.place a.sd J a.ms:=by
  have:=B1 (s:=Cc 0 H r λ_=>0) (s':=b.q.ss) d g l
  rw[f];exact this
 have y:a.ms.map ho=a.sd.xs:=rfl;have A:∀c:fD,c.q.ss=b.q.ss->c.q.place=p7 b.q.place a.sd.xs.length->c.W=b.W->OK u (J7 (Pm u) c a.Ba a.sd (cL a.sd.z1).2.2 (cL a.sd.z2).2.2 D):=λc k n o=>by
  have p:c.q.ss.vs=H:=by rw[k];exact d
  have t:c.q.ss.fb=r:=by rw[k];exact g
  have v:c.q.place=p7 (ib (0+1+1+1) a.sd.ps.length) a.sd.xs.length:=by rw[n,f]
  have w:c.W=cz a.TZ a.sd.body:=by rw[o];exact m
  exact c7 e i h j p t v w
 have C:=a.VV e.ok;clear e j m f l d g i h;exact PT I G z x y C A
theorem Sw{b:ug}{d:Wy (Int×Nat)}(i:H.toList=wd d)(I:d.length<=1000000)(j:H.extract 0 (min 60 H.size)=b)(C:(nT (d.map (·.1))).fmod 997=r)(h:hB b)(g:FE b r a)(m:BY u a b r (JF a) D):OK u (Jy c e H D):=by
 have M:H.size=d.length:=by
  have x:∀c:Wy (Int×Nat),(wd c).length=c.length:=λc=>by
   induction c with
   |nil=>rfl
   |cons N c L=>show(wd c).length+1=_;rw[L];rfl
  have:=congrArg List.length i;rw[x]at this;simpa using this
 have l:b.size<=16777216:=by rw[<-j,Array.size_extract];omega
 have J:H.size<=1000000:=by omega
 have A:dw a.k=a.sd.tree:=rfl;have z:a.ks.map dw=a.sd.ps:=rfl;have y:=a.Vm g.ok;have G:∀f:fD,f.q.ss.vs=b->f.q.ss.fb=r->f.q.place=ib (0+1+1+1) a.sd.ps.length->f.W=cz a.TZ a.sd.body->OK u (J8 (Pm u) f a.Ba a.sd D):=λf n o p s=>c3 g l h m n o p s
 obtain⟨_,d1,t,v,w,_,_,_⟩:=g;exact Jz i I J j C l h A d1 t v z w y G
end
section
def yi(d:ug)(a c:Int)(b:Nat):Nat:=(dD d c a (b:Nat)).toNat
variable {n:Nat} {fb p:Int} {vs:ug}
theorem hP(a:0<n):yi vs fb p n<n:=by have:=l6 (vs:=vs) (place:=p) (fb:=fb) (n:=(n:Nat)) (by omega);unfold yi;omega
theorem eP(a:0<n):dD vs p fb (n:Nat)=(yi vs fb p n:Nat):=by have:=l6 (vs:=vs) (place:=p) (fb:=fb) (n:=(n:Nat)) (by omega);unfold yi;omega
theorem GU{x:SS}:∀(n:Nat) (a:Int),∃b:Wy KK,b.length=n/\qs x a b
 |0,a=>⟨[],rfl,cg⟩
 |n+1,a=>by
  obtain⟨b,c,d⟩:=GU (x:=x) n (a+1+1);exact⟨(⟨_,hP (vs:=x.vs) (fb:=x.fb) (p:=a) (n:=16) (by decide)⟩,⟨_,hP (vs:=x.vs) (fb:=x.fb) (p:=a+1) (n:=16) (by decide)⟩)::b,by simp[c],eP (n:=16) (by decide),eP (n:=16) (by decide),d⟩
theorem GV{x:SS}:∀(n:Nat) (a:Int),∃b:Wy MM,b.length=n/\sv x a b
 |0,a=>⟨[],rfl,cg⟩
 |n+1,a=>by
  obtain⟨e,c,d⟩:=GV (x:=x) n (a+1+1);exact⟨(⟨_,hP (vs:=x.vs) (fb:=x.fb) (p:=a) (n:=2) (by decide)⟩,⟨_,hP (vs:=x.vs) (fb:=x.fb) (p:=a+1) (n:=5) (by decide)⟩)::e,by simp[c],eP (n:=2) (by decide),eP (n:=5) (by decide),d⟩
def P1(a:Nat):Bool:=match a with
 |0=>false
 |_=>true
def P2(a:Nat):WA Bool:=match a with
 |0=>none
 |1=>some true
 |_=>some false
theorem FF(b:ug)(a:Int):∃f,FE b a f:=by
 obtain⟨g,p,q⟩:=GU (x:=Cc 0 b a λ_=>0) (yi b a (0+1+1) 4) (0+1+1+1)
 have s:=hP (vs:=b) (fb:=a) (p:=0+1+1) (n:=4) (by decide);generalize h:ib (0+1+1+1) g.length=P at*;obtain⟨e,n,o⟩:=GV (x:=Cc 0 b a λ_=>0) (yi b a (P+1+1+1+1+1+1+1) 3) (P+1+1+1+1+1+1+1+1)
 have t:=hP (vs:=b) (fb:=a) (p:=P+1+1+1+1+1+1+1) (n:=3) (by decide)
 let c (r:Int) (i:Nat) (j:0<i):Fin i:=⟨yi b a r i,hP j⟩
 let f:In:=⟨(c 0 16 (by decide),c (0+1) 16 (by decide)),g,c P 3 (by decide),c (P+1) 4 (by decide),c (P+1+1) 6 (by decide),c (P+1+1+1) 3 (by decide),c (P+1+1+1+1) 4 (by decide),c (P+1+1+1+1+1) 6 (by decide),P1 (yi b a (P+1+1+1+1+1+1) 2),e,P2 (yi b a (p7 P e.length) 3),c (p7 P e.length+1) 4 (by decide)⟩
 have e1:f.sd.ps.length=g.length:=List.length_map ..;have e2:f.sd.xs.length=e.length:=List.length_map ..;have l:∀d<2,Fw[d]?=some (if P1 d then some wB else none):=by decide+kernel
 have m:∀d<3,Ft[d]?=some ((P2 d).map x5):=by decide+kernel
 have k:∀d:Fin 4,sM[d.val]?=some (sM.getD d.val #[]):=by decide+kernel
 refine⟨f,⟨by show g.length<=3;omega,by show e.length<=2;omega⟩,eP (by decide),eP (by decide), ?_,q,⟨yi b a (P+1+1+1+1+1+1) 2, ?_, ?_⟩,⟨yi b a (p7 P e.length) 3, ?_, ?_⟩,⟨yi b a (p7 P e.length+1) 4, ?_, ?_⟩⟩
 ·rw[e1,p];exact eP (n:=4) (by decide)
 ·rw[e1,h];exact⟨eP (n:=3) (by decide),eP (n:=4) (by decide),eP (n:=6) (by decide),eP (n:=3) (by decide),eP (n:=4) (by decide),eP (n:=6) (by decide),eP (n:=2) (by decide),by rw[e2,n];exact eP (n:=3) (by decide),o⟩
 ·exact l _ (hP (by decide))
 ·rw[e1,e2,h];exact eP (n:=3) (by decide)
 ·exact m _ (hP (by decide))
 ·rw[e1,e2,h];exact eP (n:=4) (by decide)
 ·exact k (c (p7 P e.length+1) 4 (by decide))
end
def In.par(b:In):Wy cD:=b.ks.map λa=>lP .parent (dw a)
def In.Ss(a:In):cD:=lP .UK (dk a.i1 a.j1 a.z1)
def In.QW(a:In):cD:=lP .UL (dk a.i2 a.j2 a.z2)
def In.tail(a:In):Wy cD:=(ie a.en++a.ms.map f4)++fq a.sg
def In.tree(a:In):cD:=lP .tree (dw a.k)
theorem In.VB(a:In):a.rows=a.tree::(a.par++(a.Ss::a.QW::a.tail)):=by unfold In.rows In.rest In.tree In.par In.Ss In.QW In.tail;simp
def gP(a:KK):cl:=ij a.1 a.2++ #[103]
def tP(a:KK):cl:=ij a.1 a.2++ #[sA a.2]
def In.mid(a:In)(b:Fin 10):Wy cD:=match b with
 |2=>[a.Ss,lP .parent (dw a.k),a.QW]
 |3=>[lP .UK xv,a.QW]
 |4=>[a.Ss,lP .UL sx]
 |5=>[a.Ss,lP .encoding #[120],a.QW]
 |7=>[lP .UK t7,a.QW]
 |8=>[lP .UK sy,a.QW]
 |9=>[lP .tree (tP a.k),a.Ss,a.QW]
 |_=>[a.Ss,a.QW]
def In.VD(a:In)(k:Fin 10):Wy cD:=match k with
 |0=>a.par++(a.mid 0++a.tail)
 |1=>lP .tree (ij a.k.2 a.k.1)::(a.par++(a.mid 1++a.tail))
 |6=>a.tree::lP .parent (gP a.k)::(a.par++(a.mid 6++a.tail))
 |k=>a.tree::(a.par++(a.mid k++a.tail))
theorem hG{a b c:Wy dh}{f:dh}(g:M=a++(b++c))(h:d=a.length)(i:e=a.length+b.length):lm M d e f=a++([f]++c):=by subst g h i;unfold lm;rw[List.take_left,<-List.drop_drop,List.drop_left,List.drop_left];simp
theorem In.VW(d:In)(h:Fin 10):EV h d.TZ d.sd.ps.length d.k.1 d.k.2=(d.VD h).map cD.row:=by
 have j:d.sd.ps.length=(d.par.map cD.row).length:=by
  show(d.ks.map dw).length=_;unfold In.par;simp
 have i:d.TZ=d.tree.row::(d.par.map cD.row++(d.Ss.row::d.QW.row::d.tail.map cD.row)):=by
  unfold In.TZ;rw[d.VB];simp
 rw[j,i];generalize e:d.par.map cD.row=P;generalize f:d.tail.map cD.row=g
 match h with
 |0=>show _=(d.par++([d.Ss,d.QW]++d.tail)).map cD.row;simp[EV,e,f]
 |1=>show _=(lP .tree (ij d.k.2 d.k.1)::(d.par++([d.Ss,d.QW]++d.tail))).map cD.row;simp[EV,e,f];rfl
 |2=>
  show lm _ _ _ _=(d.tree::(d.par++([d.Ss,lP .parent (dw d.k),d.QW]++d.tail))).map cD.row;rw[hG (a:=(d.tree.row::P)++[d.Ss.row]) (b:=[]) (c:=d.QW.row::g) (by simp) (by simp;omega) (by simp;omega)];simp[e,f];rfl
 |3=>
  show lm _ _ _ _=(d.tree::(d.par++([lP .UK xv,d.QW]++d.tail))).map cD.row;rw[hG (a:=d.tree.row::P) (b:=[d.Ss.row]) (c:=d.QW.row::g) (by simp) (by simp;omega) (by simp;omega)];simp[e,f];rfl
 |4=>
  show lm _ _ _ _=(d.tree::(d.par++([d.Ss,lP .UL sx]++d.tail))).map cD.row;rw[hG (a:=(d.tree.row::P)++[d.Ss.row]) (b:=[d.QW.row]) (c:=g) (by simp) (by simp;omega) (by simp;omega)];simp[e,f];rfl
 |5=>
  show lm _ _ _ _=(d.tree::(d.par++([d.Ss,lP .encoding #[120],d.QW]++d.tail))).map cD.row;rw[hG (a:=(d.tree.row::P)++[d.Ss.row]) (b:=[]) (c:=d.QW.row::g) (by simp) (by simp;omega) (by simp;omega)];simp[e,f];rfl
 |6=>
  show lm _ _ _ _=(d.tree::lP .parent (gP d.k)::(d.par++([d.Ss,d.QW]++d.tail))).map cD.row;rw[hG (a:=[d.tree.row]) (b:=[]) (c:=P++(d.Ss.row::d.QW.row::g)) (by simp) (by simp) (by simp)];simp[e,f];rfl
 |7=>
  show lm _ _ _ _=(d.tree::(d.par++([lP .UK t7,d.QW]++d.tail))).map cD.row;rw[hG (a:=d.tree.row::P) (b:=[d.Ss.row]) (c:=d.QW.row::g) (by simp) (by simp;omega) (by simp;omega)];simp[e,f];rfl
 |8=>
  show lm _ _ _ _=(d.tree::(d.par++([lP .UK sy,d.QW]++d.tail))).map cD.row;rw[hG (a:=d.tree.row::P) (b:=[d.Ss.row]) (c:=d.QW.row::g) (by simp) (by simp;omega) (by simp;omega)];simp[e,f];rfl
 |9=>
  show lm _ _ _ _=(d.tree::(d.par++([lP .tree (tP d.k),d.Ss,d.QW]++d.tail))).map cD.row;rw[hG (a:=d.tree.row::P) (b:=[]) (c:=d.Ss.row::d.QW.row::g) (by simp) (by simp;omega) (by simp;omega)];simp[e,f];rfl
theorem hH{a:Kd}(b:(qA k && Nat.ble k.size 400)=true):RowC (lP a k):=by rw[Bool.and_eq_true,Nat.ble_eq]at b;exact mN (lb b.1) b.2
theorem P4:∀a b:Fin 16,((qA (ij a b) && Nat.ble (ij a b).size 400) &&(qA (gP (a,b)) && Nat.ble (gP (a,b)).size 400) &&(qA (tP (a,b)) && Nat.ble (tP (a,b)).size 400))=true:=by decide+kernel
theorem B2(b c:Fin 16):(∀a,RowC (lP a (ij b c)))/\(∀a,RowC (lP a (gP (b,c))))/\(∀a,RowC (lP a (tP (b,c)))):=by have:=P4 b c;rw[Bool.and_eq_true,Bool.and_eq_true]at this;exact⟨λa=>hH this.1.1,λa=>hH this.1.2,λa=>hH this.2⟩
theorem P5:(∀a,RowC (lP a xv))/\(∀a,RowC (lP a sx))/\(∀a,RowC (lP a #[120]))/\(∀a,RowC (lP a t7))/\(∀a,RowC (lP a sy)):=⟨λa=>hH (by decide+kernel),λa=>hH (by decide+kernel),λa=>hH (by decide+kernel),λa=>hH (by decide+kernel),λa=>hH (by decide+kernel)⟩
theorem JG(b:Kd)(a:KK):RowC (lP b (dw a)):=mN (n6 a).1 (by have:=(n6 a).2;omega)
theorem In.all(b:In):RowC b.tree/\(∀a∈b.par,RowC a)/\RowC b.Ss/\RowC b.QW/\∀a∈b.tail,RowC a:=by have c:=b.WO;rw[b.VB]at c;refine⟨c _ (.head _),λa d=>c a ?_,c _ ?_,c _ ?_,λa d=>c a ?_⟩<;>simp_all
theorem In.Ws(b:In)(e:Fin 10):∀c∈b.mid e,RowC c:=by
 obtain⟨o,n,l,m,q⟩:=b.all;obtain⟨f,g,h,i,j⟩:=P5;have p:=JG .parent b.k;have k:=(B2 b.k.1 b.k.2).2.2;intro c d
 match e with
 |0=>have a:c∈[b.Ss,b.QW]:=d;simp only[List.mem_cons,List.not_mem_nil,or_false]at a;rcases a with rfl|rfl<;>assumption
 |1=>have a:c∈[b.Ss,b.QW]:=d;simp only[List.mem_cons,List.not_mem_nil,or_false]at a;rcases a with rfl|rfl<;>assumption
 |2=>have a:c∈[b.Ss,lP .parent (dw b.k),b.QW]:=d;simp only[List.mem_cons,List.not_mem_nil,or_false]at a;rcases a with rfl|rfl|rfl<;>assumption
 |3=>have a:c∈[lP .UK xv,b.QW]:=d;simp only[List.mem_cons,List.not_mem_nil,or_false]at a;rcases a with rfl|rfl;exact f _;assumption
 |4=>have a:c∈[b.Ss,lP .UL sx]:=d;simp only[List.mem_cons,List.not_mem_nil,or_false]at a;rcases a with rfl|rfl;assumption;exact g _
 |5=>have a:c∈[b.Ss,lP .encoding #[120],b.QW]:=d;simp only[List.mem_cons,List.not_mem_nil,or_false]at a;rcases a with rfl|rfl|rfl;assumption;exact h _;assumption
 |6=>have a:c∈[b.Ss,b.QW]:=d;simp only[List.mem_cons,List.not_mem_nil,or_false]at a;rcases a with rfl|rfl<;>assumption
 |7=>have a:c∈[lP .UK t7,b.QW]:=d;simp only[List.mem_cons,List.not_mem_nil,or_false]at a;rcases a with rfl|rfl;exact i _;assumption
 |8=>have a:c∈[lP .UK sy,b.QW]:=d;simp only[List.mem_cons,List.not_mem_nil,or_false]at a;rcases a with rfl|rfl;exact j _;assumption
 |9=>have a:c∈[lP .tree (tP b.k),b.Ss,b.QW]:=d;simp only[List.mem_cons,List.not_mem_nil,or_false]at a;rcases a with rfl|rfl|rfl;exact k _;assumption;assumption
theorem In.VA(c:In)(d:Fin 10):∀b∈c.par++(c.mid d++c.tail),RowC b:=by
 obtain⟨i,e,g,h,f⟩:=c.all;intro b a;simp only[List.mem_append]at a;rcases a with a|a|a
 ·exact e b a
 ·exact c.Ws d b a
 ·exact f b a
def jy(a:Fin 10):Bool:=match a with
 |0=>false
 |1=>false
 |6=>false
 |_=>true
theorem In.VI(b:In){a:Fin 10}(c:jy a=true):b.VD a=b.tree::(b.par++(b.mid a++b.tail)):=by
 match a,c with
 |2,_=>rfl
 |3,_=>rfl
 |4,_=>rfl
 |5,_=>rfl
 |7,_=>rfl
 |8,_=>rfl
 |9,_=>rfl
theorem In.Wj(a:In)(e:Fin 10):∀c∈a.VD e,RowC c:=by
 obtain⟨f,j,h,i,k⟩:=a.all;cases g:jy e with
 |true=>
  rw[a.VI g];intro c d;rcases t6 d with rfl|d
  ·exact f
  ·exact a.VA e c d
 |false=>
  intro c d
  match e,g with
  |0,_=>exact a.VA 0 c d
  |1,_=>
   have b:c∈lP .tree (ij a.k.2 a.k.1)::(a.par++(a.mid 1++a.tail)):=d;rcases t6 b with rfl|b
   ·exact(B2 _ _).1 _
   ·exact a.VA 1 c b
  |6,_=>
   have b:c∈a.tree::lP .parent (gP a.k)::(a.par++(a.mid 6++a.tail)):=d;rcases t6 b with rfl|b
   ·exact f
   ·rcases t6 b with rfl|b
    ·exact(B2 a.k.1 a.k.2).2.1 _
    ·exact a.VA 6 c b
section
def In.aV(a:In)(b:Fin 10):cl:=match b with
 |3=>xv
 |7=>t7
 |8=>sy
 |_=>dk a.i1 a.j1 a.z1
def In.cV(a:In)(b:Fin 10):cl:=match b with
 |4=>sx
 |_=>dk a.i2 a.j2 a.z2
def In.eV(b:In)(a:Fin 10):WA cl:=match a with
 |5=>some #[120]
 |_=>b.Vb
def Sx(a b:WA cl):WA cl:=match a with
 |none=>b
 |some c=>some c
theorem ht(a:In)(S:Sum)(d:S.U0=false):fw S a.tail={S with en:=Sx S.en a.Vb,E:=S.E++a.ms.map ho,sg:=S.sg++vF a.Vh}:=by
 obtain⟨e,b,c,en,E,sg,g⟩:=S;have f:g=false:=d;subst f;clear d;unfold In.tail;rw[f6,f6];have e1:fw (⟨e,b,c,en,E,sg,false⟩:Sum) (ie a.en)=⟨e,b,c,Sx en a.Vb,E,sg,false⟩:=by
  unfold ie In.Vb Sx;cases a.en<;>cases en<;>rfl
 rw[e1,lU _ _ rfl];unfold fq In.Vh;cases a.sg with
 |none=>simp[fw,vF]
 |some h=>rfl
def P6(a:In)(b:Fin 10):Prop:=fw rP (a.par++(a.mid b++a.tail))=⟨a.sd.ps,some (a.aV b),some (a.cV b),a.eV b,a.sd.xs,vF a.sd.sg,false⟩/\x3 (a.par++(a.mid b++a.tail)) true false false=true
variable {a:Fin 10}
theorem B3(b:In)(d:jy a=true):P6 b a:=by
 have c:=n9 b.tail (iO b);have f:∀R,fw rP (b.par++R)=fw ⟨b.sd.ps,none,none,none,[],[],true⟩ R:=λR=>by
  unfold In.par;rw[f6,n8 _ _ rfl];rfl
 have e:∀R,x3 (b.par++R) true false false=x3 R true false false:=λR=>qD _ _ _ _
 unfold P6;rw[f,e,f6]
 match a,d with
 |2,_=>
  refine⟨?_,c _⟩;show fw (⟨b.sd.ps,some _,some _,none,[],[],false⟩:Sum) b.tail=_;rw[ht _ _ rfl];rfl
 |3,_=>
  refine⟨?_,c _⟩;show fw (⟨b.sd.ps,some _,some _,none,[],[],false⟩:Sum) b.tail=_;rw[ht _ _ rfl];rfl
 |4,_=>
  refine⟨?_,c _⟩;show fw (⟨b.sd.ps,some _,some _,none,[],[],false⟩:Sum) b.tail=_;rw[ht _ _ rfl];rfl
 |5,_=>
  refine⟨?_,c _⟩;show fw (⟨b.sd.ps,some _,some _,some _,[],[],false⟩:Sum) b.tail=_;rw[ht _ _ rfl];rfl
 |7,_=>
  refine⟨?_,c _⟩;show fw (⟨b.sd.ps,some _,some _,none,[],[],false⟩:Sum) b.tail=_;rw[ht _ _ rfl];rfl
 |8,_=>
  refine⟨?_,c _⟩;show fw (⟨b.sd.ps,some _,some _,none,[],[],false⟩:Sum) b.tail=_;rw[ht _ _ rfl];rfl
 |9,_=>
  refine⟨?_,c _⟩;show fw (⟨b.sd.ps,some _,some _,none,[],[],false⟩:Sum) b.tail=_;rw[ht _ _ rfl];rfl
theorem lV(a:In)(c:a.Ok)(b:Fin 10):(a.par++(a.mid b++a.tail)).length<=30:=by
 have d:(ie a.en).length<=1:=by unfold ie;split<;>simp
 have e:(fq a.sg).length<=1:=by unfold fq;split<;>simp
 have f:(a.mid b).length<=3:=by
  match b with
  |0=>exact(by decide:2<=3)
  |1=>exact(by decide:2<=3)
  |2=>exact(by decide:3<=3)
  |3=>exact(by decide:2<=3)
  |4=>exact(by decide:2<=3)
  |5=>exact(by decide:3<=3)
  |6=>exact(by decide:2<=3)
  |7=>exact(by decide:2<=3)
  |8=>exact(by decide:2<=3)
  |9=>exact(by decide:3<=3)
 have:=c.ps;have:=c.ms;unfold In.par In.tail;simp;omega
theorem jL(a:In)(c:a.Ok){k:Fin 10}(d:jy k=true)(e:l.size<=1000):jw (cz ((a.VD k).map cD.row) l) l a.tree (a.par++(a.mid k++a.tail)):=by have b:=a.Wj k;have f:=lV a c k;rw[a.VI d]at b|-;exact pp b (by simp only[List.length_cons];omega) e
theorem FG(e:In):∀d∈e.mid a,d.k= .parent->ff d.v:=by
 intro d b c
 match a with
 |0=>rcases t6 b with rfl|b;cases c;rcases t6 b with rfl|b;cases c;cases b
 |1=>rcases t6 b with rfl|b;cases c;rcases t6 b with rfl|b;cases c;cases b
 |2=>
  rcases t6 b with rfl|b
  ·cases c
  ·rcases t6 b with rfl|b
   ·exact f5 e.k
   ·rcases t6 b with rfl|b;cases c;cases b
 |3=>rcases t6 b with rfl|b;cases c;rcases t6 b with rfl|b;cases c;cases b
 |4=>rcases t6 b with rfl|b;cases c;rcases t6 b with rfl|b;cases c;cases b
 |5=>rcases t6 b with rfl|b;cases c;rcases t6 b with rfl|b;cases c;rcases t6 b with rfl|b;cases c;cases b
 |6=>rcases t6 b with rfl|b;cases c;rcases t6 b with rfl|b;cases c;cases b
 |7=>rcases t6 b with rfl|b;cases c;rcases t6 b with rfl|b;cases c;cases b
 |8=>rcases t6 b with rfl|b;cases c;rcases t6 b with rfl|b;cases c;cases b
 |9=>rcases t6 b with rfl|b;cases c;rcases t6 b with rfl|b;cases c;rcases t6 b with rfl|b;cases c;cases b
theorem JH(d:In):∀c∈d.par++(d.mid a++d.tail),c.k= .parent->ff c.v:=by
 intro c b f;simp only[List.mem_append]at b;rcases b with b|b|b
 ·unfold In.par at b;rw[List.mem_map]at b;obtain⟨a,_,rfl⟩:=b;exact f5 a
 ·exact FG d c b f
 ·rcases iO d c b with e|e|e|e<;>rw[e]at f<;>cases f
end
section
def In.spT(a:In)(b:Fin 10):cl:=cz ((a.VD b).map cD.row) a.sd.body
theorem mP{a:cD}{b:Wy cD}{kb:cl}(c:jw l m a b)(d:cE a.k=kb):lD l kb (d1 a b):=by subst d;exact⟨lh c.size,c.line,c.sp,c.Vr,c.row⟩
theorem e0(b:In)(o:b.Ok):OK u (xz (b.spT 0) a c v d L):=by
 have k:b.sd.body.size<=1000:=by have:=dK b;omega
 have f:=b.Wj 0;have p:=lV b o 0;have m:b.VD 0=b.par++(b.Ss::b.QW::b.tail):=rfl;have g:(b.par++(b.Ss::b.QW::b.tail)).length<=30:=p;unfold In.spT;rw[m]at f|-;cases j:b.ks with
 |nil=>
  have h:b.par=[]:=by unfold In.par;rw[j];rfl
  rw[h]at f g|-;have i:=pp (r:=b.Ss) (R:=b.QW::b.tail) (msg:=b.sd.body) f (Nat.le_trans g (by decide)) k;exact p6 λq n s=>zV (mP i rfl)
 |cons e l=>
  have h:b.par=lP .parent (dw e)::l.map λe=>lP .parent (dw e):=by unfold In.par;rw[j];rfl
  rw[h]at f g|-;have i:=pp (r:=lP .parent (dw e)) (R:=(l.map λe=>lP .parent (dw e))++(b.Ss::b.QW::b.tail)) (msg:=b.sd.body) f (Nat.le_trans g (by decide)) k
  exact p6 λq n s=>Wx (mP i rfl)
theorem UE(b:In)(g:b.Ok):OK u (xz (b.spT 1) a c v d L):=by
 have h:b.sd.body.size<=1000:=by have:=dK b;omega
 have e:=b.Wj 1;have l:=lV b g 1;have f:b.VD 1=lP .tree (ij b.k.2 b.k.1)::(b.par++(b.mid 1++b.tail)):=rfl;unfold In.spT;rw[f]at e|-;have i:=pp (msg:=b.sd.body) e (by simp only[List.length_cons];omega) h;exact p6 λm j n=>Dz (mP i rfl) λa o=>Du
theorem P7(a:KK):gP a=gG a.1 a.2:=by unfold gP gG ij;apply Array.ext';simp
theorem e6(b:In)(j:b.Ok):OK u (xz (b.spT 6) a c v d L):=by
 have m:b.sd.body.size<=1000:=by have:=dK b;omega
 have e:=b.Wj 6;have p:=lV b j 6;have i:b.VD 6=b.tree::lP .parent (gP b.k)::(b.par++(b.mid 6++b.tail)):=rfl;unfold In.spT;rw[i]at e|-;have f:=pp (msg:=b.sd.body) e (by simp only[List.length_cons];omega) m;obtain⟨g,h,c3⟩:=f.chain;have n:=mP f (kb:=cE .tree) rfl;have l:zW u (gP b.k) (lq "invalid parent sha"):=λa s=>by rw[P7];exact Dv
 exact p6 λq o r=>DA n (f5 b.k) g h l
variable {k:Fin 10}
theorem sZ(a:In)(b:a.Ok)(c:jy k=true):kY (jv a.tree.len (a.par++(a.mid k++a.tail))) ⟨a.sd.ps,some (a.aV k),some (a.cV k),a.eV k,a.sd.xs,vF a.sd.sg,false⟩ (a.aV k) (a.cV k):=by
 refine⟨?_,rfl,rfl,a.Vm b,a.VV b, ?_⟩
 ·rw[u4];exact(B3 a c).1
 ·show(vF a.Vh).length<=1;unfold In.Vh;cases a.sg<;>simp[vF]
theorem wH(a:In)(b:a.Ok)(c:jy k=true)(d:mg l m (jv a.tree.len (a.par++(a.mid k++a.tail))) n q):gd l m (jv a.tree.len (a.par++(a.mid k++a.tail))) n q true false false false 0:=
 n4 _ _ _ _ _ _ _ _ _ (JH a) (by have:=lV a b k;omega) (B3 a c).2 d
def In.Vg(a:In)(b:Fin 10):eY:=d1 a.tree (a.par++(a.mid b++a.tail))
def In.Vt(a:In)(b:Fin 10):Wy dm:=jv a.tree.len (a.par++(a.mid b++a.tail))
end
section
def In.fA(a:In)(b:Fin 10):yf:=match b with
 |3=>⟨xv,none,none,false⟩
 |8=>⟨uM,some 5,some 3600,false⟩
 |_=>uY a.i1 a.j1 a.z1
def P8:yf:=⟨#[65,32,60,98,62],some 9223372036854775808,some 0,false⟩
def In.fC(a:In)(b:Fin 10):yf:=match b with
 |4=>P8
 |_=>uY a.i2 a.j2 a.z2
theorem JI:h7 u sy ⟨uM,some 5,some 3600,false⟩:=pY (n:=5) (rest:= #[53,32,43,48,49,48,48]) (j:=3) (z:=6) ⟨by decide+kernel,by decide+kernel,by decide+kernel,by decide+kernel,by decide+kernel,by decide+kernel⟩
theorem JJ:h7 u sx P8:=pY (n:=4) (rest:= #[57,50,50,51,51,55,50,48,51,54,56,53,52,55,55,53,56,48,56,32,43,48,48,48,48]) (j:=5) (z:=0) ⟨by decide+kernel,by decide+kernel,by decide+kernel,by decide+kernel,by decide+kernel,by decide+kernel⟩
def qF(k:Fin 10):Bool:=match k with
 |7=>false
 |k=>jy k
variable {a:Fin 10}
theorem P9(b:In)(c:qF a=true):h7 u (b.aV a) (b.fA a):=by
 match a,c with
 |2,_=>exact f7 _ _ _
 |3,_=>exact NB
 |4,_=>exact f7 _ _ _
 |5,_=>exact f7 _ _ _
 |8,_=>exact JI
 |9,_=>exact f7 _ _ _
theorem Qa(b:In)(c:qF a=true):h7 u (b.cV a) (b.fC a):=by
 match a,c with
 |2,_=>exact f7 _ _ _
 |3,_=>exact f7 _ _ _
 |4,_=>exact JJ
 |5,_=>exact f7 _ _ _
 |8,_=>exact f7 _ _ _
 |9,_=>exact f7 _ _ _
theorem JK(b:In):∀a,b.sd.sg=some a->eI #[10] [a]=a/\a.size<=1000000:=λa c=>⟨join_one _ _,(b.VJ a c).2⟩
def In.UZ(a:In)(b:Fin 10):Rd:=⟨a.spT b,a.Vg b,a.Vt b,a.sd.body,a.aV b,a.cV b,a.sd.ps,a.eV b,a.sd.xs,a.fA b,a.fC b⟩
theorem In.We(b:In)(c:b.Ok)(e:qF a=true)(d:jy a=true):d6 u (b.UZ a) b.sd.sg:=by
 have g:b.sd.body.size<=1000:=by have:=dK b;omega
 have h:jw (b.spT a) b.sd.body b.tree (b.par++(b.mid a++b.tail)):=jL b c d g;have m:kY (b.Vt a) ⟨b.sd.ps,some (b.aV a),some (b.cV a),b.eV a,b.sd.xs,vF b.sd.sg,false⟩ (b.aV a) (b.cV a):=sZ b c d;have t:gd (b.spT a) b.sd.body (b.Vt a) (b.Vg a).lp (((b.Vg a).np:Int)+1) true false false false 0:=wH b c d h.chain;obtain⟨v,z,i,j,k,l,t7⟩:=h;have f:d1 b.tree (b.par++(b.mid a++b.tail))=b.Vg a:=rfl;rw[f]at i j k l;have s:ff (b.Vg a).r:=f5 b.k;have n:h7 u (b.aV a) (b.fA a):=P9 b e;have o:h7 u (b.cV a) (b.fC a):=Qa b e;have p:=lh v;have q:=JK b;unfold In.UZ;clear f t7 g e;generalize b.Vg a=x,b.Vt a=y,b.spT a=w at*;exact⟨p,i,j,k,l,s,t,m,n,o,q⟩
theorem e7(b:In)(e:b.Ok){a:Nat}:OK u (EJ (b.spT 7) c a v d L):=by
 have i:b.sd.body.size<=1000:=by have:=dK b;omega
 have j:jw (b.spT 7) b.sd.body b.tree (b.par++(b.mid 7++b.tail)):=jL b e (k:=7) rfl i;have f:kY (b.Vt 7) ⟨b.sd.ps,some (b.aV 7),some (b.cV 7),b.eV 7,b.sd.xs,vF b.sd.sg,false⟩ (b.aV 7) (b.cV 7):=sZ b e (k:=7) rfl;have s:gd (b.spT 7) b.sd.body (b.Vt 7) (b.Vg 7).lp (((b.Vg 7).np:Int)+1) true false false false 0:=wH b e (k:=7) rfl j.chain;obtain⟨w,H,l,m,n,o,x⟩:=j;have h:d1 b.tree (b.par++(b.mid 7++b.tail))=b.Vg 7:=rfl;rw[h]at l m n o;have q:ff (b.Vg 7).r:=f5 b.k;have p:=lh w;have g:b.aV 7=t7:=rfl;rw[g]at f;have t:Gx {(b.UZ 7)with A:=t7} b.sd.sg:=by
  unfold In.UZ;clear h x i g;generalize b.Vg 7=z,b.Vt 7=C,b.spT 7=y at*;exact⟨p,l,m,n,o,q,s,f⟩
 exact IW λG D I=>IV (x:=b.UZ 7) t
end
def oc(c:Nat):Wy cD->Kd->Kd->Bool
 |[],b,a=>O3 c a b
 |d::R,b,a=>QL c d.k b && oc c R d.k a
theorem lj{l m:cl}{c:Nat}{a:cD}{b:Wy cD}:∀(R:Wy cD) (e:Nat) (g:cl) (h:Int) (f:Kd),oc c R f a.k=true->mg l m (jv e (R++a::b)) g h->∃j n,nN c l j n g h f
 |[],e,g,h,f,d,⟨o,p,_⟩=>⟨Ka a (e+a.len) b,[],o,p,d⟩
 |i::R,e,g,h,f,d,⟨o,p,r⟩=>by
  unfold oc at d;rw[Bool.and_eq_true]at d;obtain⟨j,n,q⟩:=lj R (e+i.len) _ _ i.k d.2 r;exact⟨j,Ka i (e+i.len) (R++a::b)::n,o,p,d.1,q⟩
theorem s0{k0:KK}{b:Wy cD}{a:Kd}(f:oc 1 b .parent a=true):∀(d:Wy KK) (c:Kd),c= .tree\/c= .parent->oc 1 ((lP .parent (dw k0)::d.map λk=>lP .parent (dw k))++b) c a=true
 |[],c,e=>by
  show(QL 1 .parent c && oc 1 b .parent a)=true;rw[f];rcases e with rfl|rfl<;>rfl
 |k::d,c,e=>by
  have:=s0 f (k0:=k) d .parent (.inr rfl);show(QL 1 .parent c && oc 1 ((lP .parent (dw k)::d.map λk=>lP .parent (dw k))++b) .parent a)=true
  rw[this];rcases e with rfl|rfl<;>rfl
theorem qG(b:In){R:Wy cD}{a:Kd}(d:oc 0 R .tree a=true)(e:oc 1 R .parent a=true):oc (QJ b.sd.ps) (b.par++R) .tree a=true:=by
 show oc (QJ (b.ks.map dw)) ((b.ks.map λc=>lP .parent (dw c))++R) .tree a=true
 cases b.ks with
 |nil=>exact d
 |cons c f=>exact s0 e f .tree (.inl rfl)
theorem fx(b:In)(f:b.Ok){a:Fin 10}(k:a=2\/a=5\/a=9):∃i j,nN (QJ b.sd.ps) (b.spT a) i j (b.Vg a).lp (((b.Vg a).np:Int)+1) .tree:=by
 have g:b.sd.body.size<=1000:=by have:=dK b;omega
 rcases k with rfl|rfl|rfl
 ·have e:jw (b.spT 2) b.sd.body b.tree (b.par++(b.mid 2++b.tail)):=jL b f (k:=2) rfl g;have c:=e.chain;have d:b.par++(b.mid 2++b.tail)=(b.par++[b.Ss])++lP .parent (dw b.k)::([b.QW]++b.tail):=by
   show b.par++([b.Ss,lP .parent (dw b.k),b.QW]++b.tail)=_;simp
  rw[show(b.Vg 2)=d1 b.tree (b.par++(b.mid 2++b.tail))from rfl];generalize (d1 b.tree (b.par++(b.mid 2++b.tail)))=h at c|-;rw[d]at c;exact lj _ _ _ _ _ (qG b (R:=[b.Ss]) rfl rfl) c
 ·have e:jw (b.spT 5) b.sd.body b.tree (b.par++(b.mid 5++b.tail)):=jL b f (k:=5) rfl g;have c:=e.chain;have d:b.par++(b.mid 5++b.tail)=(b.par++[b.Ss])++lP .encoding #[120]::([b.QW]++b.tail):=by
   show b.par++([b.Ss,lP .encoding #[120],b.QW]++b.tail)=_;simp
  rw[show(b.Vg 5)=d1 b.tree (b.par++(b.mid 5++b.tail))from rfl];generalize (d1 b.tree (b.par++(b.mid 5++b.tail)))=h at c|-;rw[d]at c;exact lj _ _ _ _ _ (qG b (R:=[b.Ss]) rfl rfl) c
 ·have e:jw (b.spT 9) b.sd.body b.tree (b.par++(b.mid 9++b.tail)):=jL b f (k:=9) rfl g;have c:=e.chain;have d:b.par++(b.mid 9++b.tail)=(b.par++[])++lP .tree (tP b.k)::([b.Ss,b.QW]++b.tail):=by
   show b.par++([lP .tree (tP b.k),b.Ss,b.QW]++b.tail)=_;simp
  rw[show(b.Vg 9)=d1 b.tree (b.par++(b.mid 9++b.tail))from rfl];generalize (d1 b.tree (b.par++(b.mid 9++b.tail)))=h at c|-;rw[d]at c;exact lj _ _ _ _ _ (qG b (R:=[]) rfl rfl) c
def UF:cl:= #[65,32,60,98,62]
theorem Qb{a:Str}:OK u (OL UF c a d):=
 oT QE [] [] (cJ []) trivial (Y:=[])
section
theorem od(b:In)(d:b.Ok){a:CQ}(e:a.T=b.sd.tree):Bb u a b.sd.ps:=by
 refine⟨b.Vm d,λh f=> ?_,by rw[e];exact f5 b.k⟩
 have c:h∈b.ks.map dw:=f;rw[List.mem_map]at c;obtain⟨g,_,rfl⟩:=c;exact f5 g
theorem oe{a:Str}{i:Fin 3}(b:k=dv i):kr u k a:=by subst b;exact λc d=>A1 i
theorem og{a:Fin 4}:xP u (dt.getD a.val 0):=λb=>uN a
variable {a:Fin 10}
theorem B4(b:In)(d:b.Ok)(e:jy a=true):mu [b.spT a] (b.spT a) (b.Vg a):=by
 have f:b.sd.body.size<=1000:=by have:=dK b;omega
 have c:jw (b.spT a) b.sd.body b.tree (b.par++(b.mid a++b.tail)):=jL b d e f;exact⟨lh c.size,c.line,c.sp,c.Vr,c.row⟩
theorem Qc(a:In)(f:a.Ok):∃m:AL->Wz,∀(b:AL) (c e:Nat) (d:Wz) (h:Nat) (g:ui),OK u (fo (Pm u) (gX (a.UZ 2) a.sd.sg b c) a.sd.ps (gw (a.fA 2).time (b 10)) (gw (a.fC 2).time (b 13)) e d h g m):=by
 refine⟨λ_=>.none,λb c e d h g=> ?_⟩
 have n:Bb u (gX (a.UZ 2) a.sd.sg b c) a.sd.ps:=od a f rfl;have o:mu (gX (a.UZ 2) a.sd.sg b c).bs (a.spT 2) (a.Vg 2):=B4 a f rfl;have j:kr u (gX (a.UZ 2) a.sd.sg b c).A (lq "invalid author"):=oe (i:=a.i1) rfl;have k:kr u (gX (a.UZ 2) a.sd.sg b c).C (lq "invalid committer"):=oe (i:=a.i2) rfl;obtain⟨r,s,l⟩:=fx a f (.inl rfl);show OK u (fo (Pm u) (gX (a.UZ 2) a.sd.sg b c) a.sd.ps (.int (dt.getD a.j1.val 0) ((gX (a.UZ 2) a.sd.sg b c).t 3)) (.int (dt.getD a.j2.val 0) ((gX (a.UZ 2) a.sd.sg b c).t 4)) e d h g λ_=>.none)
 generalize gX (a.UZ 2) a.sd.sg b c=t at*;generalize a.spT 2=p,a.Vg 2=q at*;exact qp n j k og og o l
theorem Qd(a:In)(f:a.Ok):∃m:AL->Wz,∀(b:AL) (c e:Nat) (d:Wz) (h:Nat) (g:ui),OK u (fo (Pm u) (gX (a.UZ 5) a.sd.sg b c) a.sd.ps (gw (a.fA 5).time (b 10)) (gw (a.fC 5).time (b 13)) e d h g m):=by
 refine⟨λ_=>.none,λb c e d h g=> ?_⟩
 have n:Bb u (gX (a.UZ 5) a.sd.sg b c) a.sd.ps:=od a f rfl;have o:mu (gX (a.UZ 5) a.sd.sg b c).bs (a.spT 5) (a.Vg 5):=B4 a f rfl;have j:kr u (gX (a.UZ 5) a.sd.sg b c).A (lq "invalid author"):=oe (i:=a.i1) rfl;have k:kr u (gX (a.UZ 5) a.sd.sg b c).C (lq "invalid committer"):=oe (i:=a.i2) rfl;obtain⟨r,s,l⟩:=fx a f (.inr (.inl rfl));show OK u (fo (Pm u) (gX (a.UZ 5) a.sd.sg b c) a.sd.ps (.int (dt.getD a.j1.val 0) ((gX (a.UZ 5) a.sd.sg b c).t 3)) (.int (dt.getD a.j2.val 0) ((gX (a.UZ 5) a.sd.sg b c).t 4)) e d h g λ_=>.none)
 generalize gX (a.UZ 5) a.sd.sg b c=t at*;generalize a.spT 5=p,a.Vg 5=q at*;exact qp n j k og og o l
theorem Qe(a:In)(f:a.Ok):∃m:AL->Wz,∀(b:AL) (c e:Nat) (d:Wz) (h:Nat) (g:ui),OK u (fo (Pm u) (gX (a.UZ 9) a.sd.sg b c) a.sd.ps (gw (a.fA 9).time (b 10)) (gw (a.fC 9).time (b 13)) e d h g m):=by
 refine⟨λ_=>.none,λb c e d h g=> ?_⟩
 have n:Bb u (gX (a.UZ 9) a.sd.sg b c) a.sd.ps:=od a f rfl;have o:mu (gX (a.UZ 9) a.sd.sg b c).bs (a.spT 9) (a.Vg 9):=B4 a f rfl;have j:kr u (gX (a.UZ 9) a.sd.sg b c).A (lq "invalid author"):=oe (i:=a.i1) rfl;have k:kr u (gX (a.UZ 9) a.sd.sg b c).C (lq "invalid committer"):=oe (i:=a.i2) rfl;obtain⟨r,s,l⟩:=fx a f (.inr (.inr rfl));show OK u (fo (Pm u) (gX (a.UZ 9) a.sd.sg b c) a.sd.ps (.int (dt.getD a.j1.val 0) ((gX (a.UZ 9) a.sd.sg b c).t 3)) (.int (dt.getD a.j2.val 0) ((gX (a.UZ 9) a.sd.sg b c).t 4)) e d h g λ_=>.none)
 generalize gX (a.UZ 9) a.sd.sg b c=t at*;generalize a.spT 9=p,a.Vg 9=q at*;exact qp n j k og og o l
theorem Qf(a:In)(i:a.Ok):∃h:AL->Wz,∀(b:AL) (c e:Nat) (d:Wz) (g:Nat) (f:ui),OK u (fo (Pm u) (gX (a.UZ 3) a.sd.sg b c) a.sd.ps (gw (a.fA 3).time (b 10)) (gw (a.fC 3).time (b 13)) e d g f h):=by
 refine⟨λ_=>.none,λb c e d g f=> ?_⟩
 show OK u (fo (Pm u) (gX (a.UZ 3) a.sd.sg b c) a.sd.ps .none (.int (dt.getD a.j2.val 0) ((gX (a.UZ 3) a.sd.sg b c).t 4)) e d g f λ_=>.none)
 generalize gX (a.UZ 3) a.sd.sg b c=j at*;exact EF
theorem Qg(a:In)(h:a.Ok):∃l:AL->Wz,∀(b:AL) (c e:Nat) (d:Wz) (g:Nat) (f:ui),OK u (fo (Pm u) (gX (a.UZ 4) a.sd.sg b c) a.sd.ps (gw (a.fA 4).time (b 10)) (gw (a.fC 4).time (b 13)) e d g f l):=by
 refine⟨λb=>.ref (b 4),λb c e d g f=> ?_⟩
 have m:Bb u (gX (a.UZ 4) a.sd.sg b c) a.sd.ps:=od a h rfl;have j:kr u (gX (a.UZ 4) a.sd.sg b c).A (lq "invalid author"):=oe (i:=a.i1) rfl;have k:kr u (gX (a.UZ 4) a.sd.sg b c).C (lq "invalid committer"):=λc o=>Qb
 show OK u (fo (Pm u) (gX (a.UZ 4) a.sd.sg b c) a.sd.ps (.int (dt.getD a.j1.val 0) ((gX (a.UZ 4) a.sd.sg b c).t 3)) (.int 9223372036854775808 ((gX (a.UZ 4) a.sd.sg b c).t 4)) e d g f λb=>.ref (b 4))
 generalize gX (a.UZ 4) a.sd.sg b c=n at*;exact EG m j k og
theorem Qh(a:In)(h:a.Ok):∃i:AL->Wz,∀(b:AL) (c e:Nat) (d:Wz) (g:Nat) (f:ui),OK u (fo (Pm u) (gX (a.UZ 8) a.sd.sg b c) a.sd.ps (gw (a.fA 8).time (b 10)) (gw (a.fC 8).time (b 13)) e d g f i):=by
 refine⟨λb=>.ref (b 4),λb c e d g f=> ?_⟩
 have j:Bb u (gX (a.UZ 8) a.sd.sg b c) a.sd.ps:=od a h rfl;show OK u (fo (Pm u) {(gX (a.UZ 8) a.sd.sg b c)with A:=uM} a.sd.ps (.int 5 ((gX (a.UZ 8) a.sd.sg b c).t 3)) (.int (dt.getD a.j2.val 0) ((gX (a.UZ 8) a.sd.sg b c).t 4)) e d g f λb=>.ref (b 4))
 generalize gX (a.UZ 8) a.sd.sg b c=k at*;exact EH j
theorem UG(b:In)(c:b.Ok)(h:qF a=true):∃g:AL->Wz,∀(d:AL) (j f:Nat) (e:Wz) (k:Nat) (i:ui),OK u (fo (Pm u) (gX (b.UZ a) b.sd.sg d j) b.sd.ps (gw (b.fA a).time (d 10)) (gw (b.fC a).time (d 13)) f e k i g):=by
 match a,h with
 |2,_=>exact Qc b c
 |3,_=>exact Qf b c
 |4,_=>exact Qg b c
 |5,_=>exact Qd b c
 |8,_=>exact Qh b c
 |9,_=>exact Qe b c
end
section
theorem FH(e:In)(i:e.Ok)(f:Fin 10):OK u (eN c a H ((e.VD f).map cD.row) e.sd.body d):=by
 have j:e.sd.body.size<=1000:=by have:=dK e;omega
 have g:=lV e i f;refine li (e.Wj f) ?_ ?_ j
 ·match f with
  |0=>exact λb=>by have:=congrArg List.length b;simp[In.VD,In.mid]at this
  |1=>exact λb=>nomatch b
  |2=>exact λb=>nomatch b
  |3=>exact λb=>nomatch b
  |4=>exact λb=>nomatch b
  |5=>exact λb=>nomatch b
  |6=>exact λb=>nomatch b
  |7=>exact λb=>nomatch b
  |8=>exact λb=>nomatch b
  |9=>exact λb=>nomatch b
 ·cases h:jy f with
  |true=>rw[e.VI h,List.length_cons];omega
  |false=>
   match f,h with
   |0,_=>exact Nat.le_trans g (by decide)
   |1,_=>exact Nat.succ_le_of_lt (Nat.lt_of_le_of_lt g (by decide))
   |6,_=>exact Nat.le_trans (Nat.succ_le_succ (Nat.succ_le_succ g)) (by decide)
theorem GW(a:In)(b:Fin 10):J6 (a.UZ b) (cz ((a.VD b).map cD.row) a.sd.body)=a.UZ b:=by unfold J6 In.UZ In.spT;rfl
variable {a:Fin 10}
theorem UH(c:In)(b:qF a=true):jk (c.fA a):=by
 match a,b with
 |2,_=>exact .inl ⟨_,_,rfl,rfl⟩
 |3,_=>exact .inr ⟨rfl,rfl⟩
 |4,_=>exact .inl ⟨_,_,rfl,rfl⟩
 |5,_=>exact .inl ⟨_,_,rfl,rfl⟩
 |8,_=>exact .inl ⟨_,_,rfl,rfl⟩
 |9,_=>exact .inl ⟨_,_,rfl,rfl⟩
theorem UI(b:In)(c:qF a=true):∃d e,(b.fC a).time=some d/\(b.fC a).zone=some e:=by
 match a,c with
 |2,_=>exact⟨_,_,rfl,rfl⟩
 |3,_=>exact⟨_,_,rfl,rfl⟩
 |4,_=>exact⟨_,_,rfl,rfl⟩
 |5,_=>exact⟨_,_,rfl,rfl⟩
 |8,_=>exact⟨_,_,rfl,rfl⟩
 |9,_=>exact⟨_,_,rfl,rfl⟩
theorem GX(b:qF a=true):jy a=true/\BA a=false:=by revert a;decide
theorem JL(b:qF a=false):BA a=true:=by revert a;decide
theorem UJ(a:In)(h:a.Ok)(c:Fin 10)(a6:H.size<=16777216)(a0:hB H)(a2:0<=q)(a1:dD H q s 10=(c.val:Nat)):BY u a H s q (BA c):=⟨λe o n t k a9 y z aa J ab=>by
 have D:∀L a8 M,OK u (mv e.ss e.place 10 c.val L a8 M):=fY ⟨by rw[z];exact a6,by rw[z];exact a0⟩ (by rw[J];exact a2) (by decide) (by rw[z,aa,J];exact a1);have ac:=a.len h;have a3:=a.Vm h;have W:e.XS.size<=1000:=by rw[ab];unfold In.TZ;rw[List.length_map];omega
 have V:a.TZ[0]?=some (cE .tree,eF a.k.1 a.k.2):=rfl;have m:∀f,OK u (iZ c.val e.rl e.pl e.Vk e.U5 e.XS a.TZ a.sd.ps e.Fp f (Po c e.XS a.sd.ps.length) ((a.VD c).map cD.row) (BA c) []):=λf=>by
  have:=Jf (u:=u) (rl:=e.rl) (pl0:=e.pl) (ep:=e.Vk) (U5:=e.U5) (XS:=e.XS) (R:=a.TZ) (ps:=a.sd.ps) (F:=e.Fp) (tk:=f) (a:=a.k.1) (b:=a.k.2) c (by omega) W V;rw[a.VW c]at this;exact this
 have x:∀k A G f,OK u (eN k A G ((a.VD c).map cD.row) a.sd.body f):=λk A G f=>FH a h c
 cases j:qF c with
 |true=>
  have P:=(GX j).1;have w:=(GX j).2;obtain⟨C,X⟩:=UG (u:=u) a h j;have a5:=a.We (u:=u) h j P;rw[w]at m|-;have N:=UH a j;have Q:=UI a j;have a4:(a.UZ c).ps.length<=3:=a3;have O:jk (a.UZ c).fA:=N;have Y:∃a7 e,(a.UZ c).fC.time=some a7/\(a.UZ c).fC.zone=some e:=Q;have Z:∀(l:AL) (f o:Nat) (n:Wz) (t:Nat) (k:ui),OK u (fo (Pm u) (gX (a.UZ c) a.sd.sg l f) (a.UZ c).ps (gw (a.UZ c).fA.time (l 10)) (gw (a.UZ c).fC.time (l 13)) o n t k C):=X;refine E6 D m λg I v=>E2 ?_
  have i:g.Vn.msg=a.sd.body:=by show g.msg=_;rw[v,y]
  have eT:(a.UZ c).d.r=g.Vn.T:=by show a.sd.tree=g.T;rw[I,a9]
  show OK u (uU 28 (Pm u) g.Vn (a.UZ c).ps _ o n t k);refine Jk (y:=a.UZ c) (sg:=a.sd.sg) (h:=C) eT ?_ ?_ ?_
  ·rw[i];exact x _ _ _ _
  ·rw[i,GW];generalize a.UZ c=ae at*;exact λf=>H0 a5 a4 O Y
  ·rw[i,GW];exact λl f=>Z l f o n t k
 |false=>
  have w:=JL j;rw[w]at m|-;refine E4 D m λg I v=> ?_
  have p:OK u (eN g.wl g.VM g.XW ((a.VD c).map cD.row) g.msg g.tm):=by rw[v,y];exact x _ _ _ _
  have i:g.msg=a.sd.body:=by rw[v,y]
  clear m x
  match c,j with
  |0,_=>exact qv p (by rw[i];exact λf=>e0 a h)
  |1,_=>exact qv p (by rw[i];exact λf=>UE a h)
  |6,_=>exact qv p (by rw[i];exact λf=>e6 a h)
  |7,_=>exact E3 p (by rw[i];exact λf=>e7 a h)⟩
end
theorem B5{l ep:Nat}{vs:ug}{rs:Wy (Int×Nat)}(k:vs.toList=wd rs)(i:rs.length<=1000000)(d:hB (vs.extract 0 (min 60 vs.size))):∃f,OK u (Jy l ep vs f):=by
 generalize e:vs.extract 0 (min 60 vs.size)=b at*;obtain⟨a,c⟩:=FF b ((nT (rs.map (·.1))).fmod 997);have j:0<=JF a:=by
  have:=B0 (p:=ib (0+1+1+1) a.sd.ps.length) (n:=a.sd.xs.length) (jx _ _ (by decide));unfold JF;omega
 have h:=hP (vs:=b) (fb:=(nT (rs.map (·.1))).fmod 997) (p:=JF a) (n:=10) (by decide);have g:=eP (vs:=b) (fb:=(nT (rs.map (·.1))).fmod 997) (p:=JF a) (n:=10) (by decide);have m:b.size<=16777216:=by rw[<-e,Array.size_extract];omega
 exact⟨_,Sw k i e rfl d c (UJ a c.ok ⟨_,h⟩ m d j g)⟩
section
open PyProof
variable {d:Wy Int}
theorem JM(c:IntsAre L d):∃a:Wy (Int×Nat),L=wd a/\a.length=d.length:=by
 induction c with
 |nil=>exact⟨[],rfl,rfl⟩
 |cons g h _ f=>
  obtain⟨a,b,e⟩:=f;exact⟨(g,h)::a,by rw[b];rfl,by simp[e]⟩
theorem Sy{b:WG}(D:tj oP J=Ya b)(r:∀g i,J.heap.get? g=some i->I.heap.get? g=some i)(A:I.heap.get? a=some (cm L.toArray c))(w:J.heap.get? a=none)(M:IntsAre L d)(a6:d.length<=63)(O:hB (L.toArray.extract 0 (min 60 L.toArray.size)))(Y:I.gens= #[]){e:WH->WF->Prop}
 (N:∀j,(∀g i,I.heap.get? g=some i->g≠393->g≠972->g≠693->j.heap.get? g=some i)->(∀g,g=393\/g=972\/g=693->I.heap.get? g=some fm/\∃R,j.heap.get? g=some ⟨.none,none,.fields R,#[]⟩)->j.os=I.os->AllBare j.gens->e (.ok (.ret (.bool true))) j):codeAny (model PW b) callerA (.call (.ref 975) ⟨[.ref a],[]⟩) e I:=by
 obtain⟨x,s⟩:=pG D;obtain⟨a3,e1,e2⟩:=JM M;obtain⟨n,p⟩:=B5 (u:=⟨b,b.params.followText "special-get-raises",b.params.followText "comprehension-iter-twice"⟩) (l:=a) (ep:=c) (vs:=L.toArray) (rs:=a3) (by simpa using e1) (by omega) O;unfold OK at p;rw[Cy]at p;have Q:gq (KB b) I.heap:=λv i f=>r v i (x v i f)
 have F:KB b a=none:=by
  cases f:KB b a with
  |none=>rfl
  |some i=>have:=x a i f;rw[w]at this;cases this
 refine p callerA e I ⟨rfl,(λa4 f=>by cases f),(show callerA.depth+2*293+2<=900 by decide),(show callerA.units+12*293+12<=9000 by decide)⟩ ⟨[],rfl,λa5 f=>nomatch f⟩ Q (AllBare.of_eq Y) ⟨?_, ?_,(λh f=>nomatch f),List.nodup_nil,(λB f=>nomatch f)⟩ λm a7 j k=>N j ?_ ?_ k.step.os k.bare
 ·intro G T;have z:G∈pl [(a,cm L.toArray c),(393,fm),(972,fm),(693,fm)]:=T;simp only[pl,List.map_cons,List.map_nil,List.mem_cons,List.not_mem_nil,or_false]at z;have l:∀h∈yC b.params,I.heap.get? h.1=some h.2:=λh o=>r _ _ (s h o)
  rcases z with rfl|rfl|rfl|rfl
  ·exact⟨A,F,λ_ f=>nomatch f⟩
  ·exact⟨l (393,_) (.head _),by kernel_rfl,λ_ f=>nomatch f⟩
  ·exact⟨l (972,_) (.tail _ (.tail _ (.head _))),by kernel_rfl,λ_ f=>nomatch f⟩
  ·exact⟨l (693,_) (.tail _ (.head _)),by kernel_rfl,λ_ f=>nomatch f⟩
 ·have t:∀h∈yC b.params,a≠h.1:=λh o n=>by have:=s h o;rw[<-n,w]at this;cases this
  show[a,393,972,693].Nodup;have V:=t (393,_) (.head _);have W:=t (693,_) (.tail _ (.head _));have P:=t (972,_) (.tail _ (.tail _ (.head _)));simp only[List.nodup_cons,List.mem_cons,List.not_mem_nil,or_false,not_or,List.nodup_nil,not_false_eq_true,and_true];exact⟨⟨V,P,W⟩,⟨by decide,by decide⟩,by decide⟩
 ·intro g i q a0 a1 a2
  by_cases y:g=a
  ·subst y;have:=k.post (⟨g,cm L.toArray c,false⟩,cm L.toArray c) (.head _);have H:j.heap.get? g=some (cm L.toArray c):=this;rw[A]at q;rw[H,<-q]
  ·rcases k.step.chg g i q (by
    show g∉[a,393,972,693];simp only[List.mem_cons,List.not_mem_nil,or_false,not_or];exact⟨y,a0,a1,a2⟩)with f|⟨f,_⟩
   ·exact f
   ·cases f
 ·have l:∀h∈yC b.params,I.heap.get? h.1=some h.2:=λh o=>r _ _ (s h o)
  have X:j.heap.get? 393=some (ee (m 2)):=k.post (⟨393,fm,false⟩,ee (m 2)) (.tail _ (.head _));have C:j.heap.get? 972=some (uW n (m 0)):=k.post (⟨972,fm,false⟩,uW n (m 0)) (.tail _ (.tail _ (.head _)));have Z:j.heap.get? 693=some (fG (m 1)):=k.post (⟨693,fm,false⟩,fG (m 1)) (.tail _ (.tail _ (.tail _ (.head _))));rintro g (rfl|rfl|rfl)
  ·exact⟨l (393,_) (.head _),_,X⟩
  ·refine⟨l (972,_) (.tail _ (.tail _ (.head _))), ?_⟩;cases n with
   |true=>exact⟨_,C⟩
   |false=>exact⟨_,C⟩
  ·exact⟨l (693,_) (.tail _ (.head _)),_,Z⟩
end
section
open PyProof
theorem JN{w:WG}{a:Heap}{b:Str->WA Wz}(l:gq (KB w) a)(m:a.Ns mainGlobals b)(f:b s5.name=some (.ref c)):c=975:=by
 obtain⟨o,d,p,h,i,q,j⟩:=m;have n:KB w 3=some (Ql w.params):=by kernel_rfl
 have k:=l 3 _ n;have e:a.get? 3=some o:=h;rw[k]at e;injection e with e;subst e;have g:d=(match(Ql w.params).data with| .dict d _=>d|_=> #[]):=by rw[i]
 rw[<-j,g]at f;have:nsFind (match(Ql w.params).data with| .dict d _=>d|_=> #[]) s5.name=some (.ref 975):=by kernel_rfl
 rw[this]at f;cases f;rfl
end
section
open PyProof
theorem FI{a:WG}{b:WF}(o:tj oP b=Ya a)(t:∀c d,b.heap.get? c=some d->I.heap.get? c=some d)(l:∀c d,I.heap.get? c=some d->c≠393->c≠972->c≠693->J.heap.get? c=some d)(m:∀c,c=393\/c=972\/c=693->I.heap.get? c=some fm/\∃h,J.heap.get? c=some ⟨.none,none,.fields h,#[]⟩):OldK I.heap J.heap:=by
 obtain⟨r,v⟩:=pG o;have i:gq (KB a) I.heap:=λk d q=>t k d (r k d q)
 have p:∀c,c=393\/c=972\/c=693->isCodeTable I.heap c:=λc s=>by
  rcases s with rfl|rfl|rfl
  ·exact⟨397,FL a.params,_,i 397 _ (by kernel_rfl),rfl,rfl,rfl⟩
  ·exact⟨974,FN a.params,_,i 974 _ (by kernel_rfl),rfl,rfl,rfl⟩
  ·exact⟨697,FM a.params,_,i 697 _ (by kernel_rfl),rfl,rfl,rfl⟩
 refine⟨λc d g=> ?_,λc d g=> ?_⟩
 ·by_cases f:c=393\/c=972\/c=693
  ·obtain⟨n,h,j⟩:=m c f;rw[n]at g;injection g with g;subst g;exact .inr (.inl ⟨p c f,rfl,#[],h,rfl,by rw[j];simp[fm]⟩)
  ·exact .inl (l c d g (λe=>f (.inl e)) (λe=>f (.inr (.inl e))) (λe=>f (.inr (.inr e))))
 ·by_cases f:c=393\/c=972\/c=693
  ·obtain⟨n,h,j⟩:=m c f;exact⟨_,j⟩
  ·exact⟨d,l c d g (λe=>f (.inl e)) (λe=>f (.inr (.inl e))) (λe=>f (.inr (.inr e)))⟩
end
section
open PyProof
theorem lay_ints{a:WRecords}{c:Str->WA Addr}{b:WC}{d:Wy WL->Wy WL}:∀(g:Wy Int) (h:WF) (f:ui×WF),layAllW a c b d (g.map WData.int) h=some f->IntsAre f.1 g/\f.2.heap=h.heap
 |[],h,f,e=>by cases e;exact⟨.nil,rfl⟩
 |n::g,h,f,e=>by
  simp only[List.map_cons,layAllW,layW]at e;split at e
  ·rename_i l k;obtain⟨i,j⟩:=lay_ints g _ l k;cases e;exact⟨.cons n _ i,j⟩
  ·cases e
theorem ya(a:Wy Int):ofPy (PyData.list (a.map PyData.int))=WData.list (a.map WData.int):=by show WData.list (ofPys (a.map PyData.int))=_;rw[ofPys_eq,List.map_map];rfl
theorem yb{a:WRecords}{d:WG}{b:Wy Int}(j:Laid a d I J [ofPy (PyData.list (b.map PyData.int))] [.ref c] Z):I.heap.get? c=none/\∃i,IntsAre i b/\J.heap.get? c=some (cm i.toArray 0):=by
 obtain⟨q,_,e⟩:=j.laid;rw[ya]at e;simp only[layAllW,layW]at e;split at e
 ·rename_i r g;split at g
  ·rename_i h o;obtain⟨l,m⟩:=lay_ints b _ h o;cases g;injection e with e;injection e with f n;injection f with f _;injection f with f;subst f n;refine⟨?_,h.1,l,Heap.get?_push_size _ rfl⟩;rw[m];cases k:I.heap.get? I.heap.objs.size with
   |none=>rfl
   |some p=>exact absurd (Heap.lt_size k) (Nat.lt_irrefl _)
  ·cases g
 ·cases e
end
section
open PyProof
variable {a:Wy Int}
theorem ints_get(e:IntsAre L a):∀b,b<L.length->∃h d,L[b]?=some (.int h d):=by
 induction e with
 |nil=>intro b c;cases c
 |cons g d _ f=>
  intro b c;cases b with
  |zero=>exact⟨g,d,rfl⟩
  |succ b=>simpa using f b (by simpa using c)
theorem B6(e:IntsAre L a)(g:Nat):hB (L.toArray.extract 0 g):=by
 intro c b;rw[Array.size_extract]at b;have f:c<L.length:=by simp at b;omega
 obtain⟨i,h,d⟩:=ints_get e c f;refine⟨i,h, ?_⟩;rw[Array.getElem?_extract];simp at b|-;exact⟨b,d⟩
theorem yc{a:Wy WData}{b:Str->WA Addr}{c:ExcName->WA Wz}(d:OldK J.heap I.heap)(f:I.os=J.os)(e:AllBare I.gens):GoodWG RW.row.claim b c a J (.ok (.ret (.bool true))) I:=
 ⟨.inl ⟨.bool true,.bool true,[],rfl,λ_=>rfl,.bool true,by kernel_rfl,λ_=>⟨List.nodup_nil,λ_ d=>nomatch d⟩⟩,d,f,e⟩
theorem FJ:RW.row.prog=PW:=rfl
theorem Qi:RW.Holds:=by
 refine holds_law QX λL=> ?_
 refine holds_openX (q:=QV) (loose:=pu) (XP:=λ_ _=>True) (d:=s5) (kwd:=[]) MX (λ_ _=>cg) (λ_ _ _ _ _=>cg) (by kernel_rfl) (by kernel_rfl) (by kernel_rfl) (λab _=>recFacts_of (by rfl)) (by kernel_rfl) L (by kernel_rfl) ⟨rfl,rfl,rfl,rfl,rfl,by decide+kernel⟩ wK ?_
 intro M ae af a6 a5 e a j c a8 F V R a3 z r p m x s N ag O f A v C D w;have y:=e.T.g;clear z r p m e
 wrow_args A v C D w
 rename_i a7 a2 Z P a1 X an al a4 ah aj W aa ak a9 n a0 Q Y;clear n;refine enter_call ?_;obtain⟨l,ai,i,t⟩:=yb f;have b:=f.keeps;have o:j=975:=JN (w:=M) (λh c k=>b h c ((pG a).1 h c k)) y x
 subst o;rw[FJ];exact Sy a b t l i (by omega) (B6 i _) s λac G H I J=>yc (FI a b G H) I J
theorem all:PySem.Challenge.rw_jf0025_01.Holds:=Qi
end
end
end Mine
theorem PySem.Challenge.cw_jf0025_01_holds : PySem.Challenge.rw_jf0025_01.Holds :=
  Mine.all
