import PyProof.Rows.All
import Wide.All
import OpenK.AllK
import Wide.FinOn
import KE.KSortTup
import KE.KCallOwn
import OpenK.ZHead
import Lean
import PySem.Challenge.RW_pk0052_01
open PySem PySem.W PyProof.Rows PySem.Calls PySem.W.X
set_option genInjectivity false
set_option genSizeOf false
set_option backward.match.sparseCases false
set_option Elab.async false
set_option maxRecDepth 100000
set_option maxHeartbeats 0
set_option autoImplicit false
set_option linter.all false
namespace Mine
noncomputable section
noncomputable def hW:=@List.getD_eq_getElem?_getD
noncomputable def i9:=@Array.getElem?_eq_getElem
noncomputable def j0:=@List.getElem?_eq_some_iff
noncomputable def dT:=@List.getElem?_eq_getElem
noncomputable def bp:=@Nat.le_of_ble_eq_true
noncomputable def fW:=@Nat.eq_of_beq_eq_true
noncomputable def mV:=@Nat.ble_eq_true_of_le
noncomputable def bu:=@List.mem_append_right
noncomputable def jm:=@List.perm_append_comm
noncomputable def i0:=@Around.under_plainId
noncomputable def aI:=@List.mem_append_left
noncomputable def bQ:=@List.mem_of_getElem?
noncomputable def f0:=@List.forall_mem_cons
noncomputable def gY:=@List.mem_cons_of_mem
noncomputable def bW:=@List.mem_map_of_mem
noncomputable def ci:=@List.mem_singleton
noncomputable def bC:=@List.append_assoc
noncomputable def bX:=@List.nodup_append
noncomputable def du:=@List.ext_getElem
noncomputable def dt:=@codeAny_builtin
noncomputable def aW:=@List.map_append
noncomputable def aX:=@List.append_nil
noncomputable def dm:=@List.mem_append
noncomputable def bo:=@Option.some.inj
noncomputable def fH:=@List.length_map
noncomputable def eY:=@wpOwn_of_wpAny
noncomputable def bI:=@List.mem_cons
noncomputable def bz:=@Value.ref.inj
noncomputable def cP:=@Nat.le_trans
noncomputable def aY:=@List.mem_map
noncomputable def aH:=@Prod.mk.inj
noncomputable def af:=@wpAny_bind
noncomputable def aA:=@wpAny_pure
noncomputable def bG:=@wpOwn_bind
section
variable {α β:Type}{l vs first:List Value}{H h hh:Heap}{b so p it pp dd rw a' b':Addr}{i j m tt dn:Nat}{o' oa ol oL:Obj}{w:World}{E:Value→Shared→Prop}{d dr:Drawn}{t:Sem PySem.Fin}{M:Model}{ob vb:List Prop}{c' vc₁:Code}{k:Result→Sem PySem.Fin}{q name:Str}{fd:FuncData}{args:Args}{tk tk0 tk1 tf tq t1 t2:Tok}{ll iw ir:List Nat}{vl:Bool}{vu cc acc:Value}{lo hi:Option Int}{dx:Option Addr}{v:Int}{g' r':Sem Value}{pos apos gp:Pos}{what:String}{op:CmpOp}{el elt target iter:PySem.Expr}{sc:Scope}{ifs:List PySem.Expr}{vf:Result}{vh:Option Value}{y:Addr×Obj}{h₀:ExceptHandler}{ks:List (Int×Int)}
section
noncomputable abbrev pg:Program:=PySem.Challenge.pw_pk0052_01
noncomputable abbrev kh (P:Params) (s:Str):Int:=PySem.PyData.keyHash P s
noncomputable def fe:List Stmt→Nat→Stmt
 |[],_=>default
 |s::_,0=>s
 |_::r,n+1=>fe r n
noncomputable def st (i:Nat):Stmt:=fe pg.main.body i
noncomputable def ms (i j:Nat):Stmt:=match st i with
 |.ClassDef _ _ _ b _ _ _ _ _ _ _=>fe b j
 |s=>s
noncomputable def fA:Stmt→Arguments
 |.FunctionDef _ a _ _ _ _ _ _ _ _=>a
 |_=>default
noncomputable def fB:Stmt→List Stmt
 |.FunctionDef _ _ b _ _ _ _ _ _ _=>b
 |_=>[]
noncomputable def fS:Stmt→Scope
 |.FunctionDef _ _ _ _ _ _ s _ _ _=>s
 |_=>default
noncomputable def d7 (l:Array Value):Obj:=⟨.type "tuple",.none,.seq l,#[]⟩
noncomputable def oX (l:Array Value):Obj:=⟨.none,.none,.fields l,#[]⟩
noncomputable abbrev kE (P:Params) (s:Str) (n:Nat) (v:Value):DictEntry:=⟨kh P s,.str s n,v⟩
noncomputable def og (N Q:Str) (s:Stmt):Obj:=⟨.none,.none,.func ⟨N,Q,fA s,.stmts (fB s),fS s,0,[],.none,.none,.none,.none,.none,.none,.none,0⟩,#[]⟩
noncomputable def oE (N Q:Str) (s:Stmt) (g:Addr) (l:List (Str×Addr)) (d:Value) (M:Str) (k:Nat) (c e:Value):Obj:=⟨.type "function",.none,.func ⟨N,Q,fA s,.stmts (fB s),fS s,g,l,d,.none,.none,.str M k,.none,c,e,0⟩,#[]⟩
noncomputable def mZ (A B C:Str) (a:Nat) (i j l f:Int) (r:Addr) (b:Bool) (m:Int) (q:Addr) (u v x:Value) (y:Int) (d:Nat):Obj:=⟨.type "code",.none,.fields #[.str A a,.str B (a+1),.str C (a+2),.int i 0,.int j 0,.int 0 0,.int l 0,.int f 0,.ref r,.bool b,.int m 0,.ref q,.none,u,v,x,.int y 0,.int i 0,.str C d],#[]⟩
noncomputable def Ip:Str:=.mk #[95,95,110,97,109,101,95,95]
noncomputable def Ih:Str:=.mk #[98,117,105,108,116,105,110,115]
noncomputable def Hk:Str:=.mk #[95,95,100,111,99,95,95]
noncomputable def Iz:Str:=.mk #[95,95,112,97,99,107,97,103,101,95,95]
noncomputable def Ic:Str:=.mk #[95,95,108,111,97,100,101,114,95,95]
noncomputable def Ij:Str:=.mk #[95,95,115,112,101,99,95,95]
noncomputable def Ho:Str:=.mk #[95,95,109,97,105,110,95,95]
noncomputable def Fc:Str:=.mk #[108,97,119,95,112,107,48,48,53,50,95,48,49]
noncomputable def mQ:Str:=.mk #[47,99,108,97,105,109,47,99,117,116,46,112,121]
noncomputable def EL:Str:=.mk #[110,111,116,95]
noncomputable def sf:Str:=.mk #[116,114,117,116,104]
noncomputable def rg:Str:=.mk #[110,101,103]
noncomputable def rA:Str:=.mk #[99,111,117,110,116,79,102]
noncomputable def rZ:Str:=.mk #[108,101,110,103,116,104,95,104,105,110,116]
noncomputable def zu:Str:=.mk #[95,65,99,99,117,109,117,108,97,116,111,114]
noncomputable def s6:Str:=.mk #[95,108,97,119,95,103,114,97,112,104]
noncomputable def sN:Str:=.mk #[95,108,97,119,95,114,111,119]
noncomputable def ro:Str:=.mk #[95,108,97,119,95,115,104,111,119,115]
noncomputable def rT:Str:=.mk #[95,108,97,119,95,112,97,105,114,101,100]
noncomputable def sH:Str:=.mk #[108,97,119]
noncomputable def Ck:Str:=.mk #[60,109,111,100,117,108,101,62]
noncomputable def Ap:Str:=.mk #[97]
noncomputable def xE:Str:=.mk #[99,112,121,51,49,51,46,111,112,101,114,97,116,111,114]
noncomputable def wF:Str:=.mk #[95,95,99,108,97,115,115,95,95]
noncomputable def oJ:Str:=.mk #[115,101,108,102]
noncomputable def Ce:Str:=.mk #[95,95,105,110,105,116,95,95]
noncomputable def Dx:Str:=.mk #[95,65,99,99,117,109,117,108,97,116,111,114,46,95,95,105,110,105,116,95,95]
noncomputable def mR:Str:=.mk #[99,112,121,51,49,51,46,101,109,97,105,108,46,104,101,97,100,101,114]
noncomputable def Cp:Str:=.mk #[112,117,115,104]
noncomputable def EW:Str:=.mk #[95,65,99,99,117,109,117,108,97,116,111,114,46,112,117,115,104]
noncomputable def AC:Str:=.mk #[112,111,112,95,102,114,111,109]
noncomputable def Ev:Str:=.mk #[95,65,99,99,117,109,117,108,97,116,111,114,46,112,111,112,95,102,114,111,109]
noncomputable def BQ:Str:=.mk #[112,111,112]
noncomputable def DS:Str:=.mk #[95,65,99,99,117,109,117,108,97,116,111,114,46,112,111,112]
noncomputable def BN:Str:=.mk #[95,95,108,101,110,95,95]
noncomputable def Eu:Str:=.mk #[95,65,99,99,117,109,117,108,97,116,111,114,46,95,95,108,101,110,95,95]
noncomputable def AU:Str:=.mk #[95,95,115,116,114,95,95]
noncomputable def D6:Str:=.mk #[95,65,99,99,117,109,117,108,97,116,111,114,46,95,95,115,116,114,95,95]
noncomputable def Ao:Str:=.mk #[114,101,115,101,116]
noncomputable def E8:Str:=.mk #[95,65,99,99,117,109,117,108,97,116,111,114,46,114,101,115,101,116]
noncomputable def Au:Str:=.mk #[105,115,95,111,110,108,121,119,115]
noncomputable def E1:Str:=.mk #[95,65,99,99,117,109,117,108,97,116,111,114,46,105,115,95,111,110,108,121,119,115]
noncomputable def Ca:Str:=.mk #[112,97,114,116,95,99,111,117,110,116]
noncomputable def D8:Str:=.mk #[95,65,99,99,117,109,117,108,97,116,111,114,46,112,97,114,116,95,99,111,117,110,116]
noncomputable def Gq:Str:=.mk #[95,95,100,105,99,116,95,95]
noncomputable def FP:Str:=.mk #[95,95,119,101,97,107,114,101,102,95,95]
noncomputable def IP (P:Params):Obj:=Obj.mk (.type "dict") .none (Data.dict #[kE P Ip 1 (.str Ih 160),kE P Hk 2 (.builtin "builtins.__doc__:str#opaque"),kE P Iz 3 (.builtin "builtins.__package__:str#opaque"),kE P Ic 4 (.builtin "builtins.__loader__:shared#opaque"),kE P Ij 5 (.builtin "builtins.__spec__#opaque"),kE P (Str.mk #[95,95,98,117,105,108,100,95,99,108,97,115,115,95,95]) 6 (.builtin "__build_class__"),kE P (Str.mk #[95,95,105,109,112,111,114,116,95,95]) 7 (.builtin "__import__"),kE P (Str.mk #[97,98,115]) 8 (.builtin "abs"),kE P (Str.mk #[97,108,108]) 9 (.builtin "all"),kE P (Str.mk #[97,110,121]) 10 (.builtin "any"),kE P (Str.mk #[97,115,99,105,105]) 11 (.builtin "ascii"),kE P (Str.mk #[98,105,110]) 12 (.builtin "bin"),kE P (Str.mk #[98,114,101,97,107,112,111,105,110,116]) 13 (.builtin "breakpoint"),kE P (Str.mk #[99,97,108,108,97,98,108,101]) 14 (.builtin "callable"),kE P (Str.mk #[99,104,114]) 15 (.builtin "chr"),kE P (Str.mk #[99,111,109,112,105,108,101]) 16 (.builtin "compile"),kE P (Str.mk #[100,101,108,97,116,116,114]) 17 (.builtin "delattr"),kE P (Str.mk #[100,105,114]) 18 (.builtin "dir"),kE P (Str.mk #[100,105,118,109,111,100]) 19 (.builtin "divmod"),kE P (Str.mk #[101,118,97,108]) 20 (.builtin "eval"),kE P (Str.mk #[101,120,101,99]) 21 (.builtin "exec"),kE P (Str.mk #[102,111,114,109,97,116]) 22 (.builtin "format"),kE P (Str.mk #[103,101,116,97,116,116,114]) 23 (.builtin "getattr"),kE P (Str.mk #[103,108,111,98,97,108,115]) 24 (.builtin "globals"),kE P (Str.mk #[104,97,115,97,116,116,114]) 25 (.builtin "hasattr"),kE P (Str.mk #[104,97,115,104]) 26 (.builtin "hash"),kE P (Str.mk #[104,101,120]) 27 (.builtin "hex"),kE P (Str.mk #[105,100]) 28 (.builtin "id"),kE P (Str.mk #[105,110,112,117,116]) 29 (.builtin "input"),kE P (Str.mk #[105,115,105,110,115,116,97,110,99,101]) 30 (.builtin "isinstance"),kE P (Str.mk #[105,115,115,117,98,99,108,97,115,115]) 31 (.builtin "issubclass"),kE P (Str.mk #[105,116,101,114]) 32 (.builtin "iter"),kE P (Str.mk #[97,105,116,101,114]) 33 (.builtin "aiter"),kE P (Str.mk #[108,101,110]) 34 (.builtin "len"),kE P (Str.mk #[108,111,99,97,108,115]) 35 (.builtin "locals"),kE P (Str.mk #[109,97,120]) 36 (.builtin "max"),kE P (Str.mk #[109,105,110]) 37 (.builtin "min"),kE P (Str.mk #[110,101,120,116]) 38 (.builtin "next"),kE P (Str.mk #[97,110,101,120,116]) 39 (.builtin "anext"),kE P (Str.mk #[111,99,116]) 40 (.builtin "oct"),kE P (Str.mk #[111,114,100]) 41 (.builtin "ord"),kE P (Str.mk #[112,111,119]) 42 (.builtin "pow"),kE P (Str.mk #[112,114,105,110,116]) 43 (.builtin "print"),kE P (Str.mk #[114,101,112,114]) 44 (.builtin "repr"),kE P (Str.mk #[114,111,117,110,100]) 45 (.builtin "round"),kE P (Str.mk #[115,101,116,97,116,116,114]) 46 (.builtin "setattr"),kE P (Str.mk #[115,111,114,116,101,100]) 47 (.builtin "sorted"),kE P (Str.mk #[115,117,109]) 48 (.builtin "sum"),kE P (Str.mk #[118,97,114,115]) 49 (.builtin "vars"),kE P (Str.mk #[78,111,110,101]) 50 .none,kE P (Str.mk #[69,108,108,105,112,115,105,115]) 51 .ellipsis,kE P (Str.mk #[78,111,116,73,109,112,108,101,109,101,110,116,101,100]) 52 .notImplemented,kE P (Str.mk #[70,97,108,115,101]) 53 (.bool .false),kE P (Str.mk #[84,114,117,101]) 54 (.bool .true),kE P (Str.mk #[98,111,111,108]) 55 (.type "bool"),kE P (Str.mk #[109,101,109,111,114,121,118,105,101,119]) 56 (.type "memoryview"),kE P (Str.mk #[98,121,116,101,97,114,114,97,121]) 57 (.type "bytearray"),kE P (Str.mk #[98,121,116,101,115]) 58 (.type "bytes"),kE P (Str.mk #[99,108,97,115,115,109,101,116,104,111,100]) 59 (.type "classmethod"),kE P (Str.mk #[99,111,109,112,108,101,120]) 60 (.type "complex"),kE P (Str.mk #[100,105,99,116]) 61 (.type "dict"),kE P (Str.mk #[101,110,117,109,101,114,97,116,101]) 62 (.type "enumerate"),kE P (Str.mk #[102,105,108,116,101,114]) 63 (.type "filter"),kE P (Str.mk #[102,108,111,97,116]) 64 (.type "float"),kE P (Str.mk #[102,114,111,122,101,110,115,101,116]) 65 (.type "frozenset"),kE P (Str.mk #[112,114,111,112,101,114,116,121]) 66 (.type "property"),kE P (Str.mk #[105,110,116]) 67 (.type "int"),kE P (Str.mk #[108,105,115,116]) 68 (.type "list"),kE P (Str.mk #[109,97,112]) 69 (.type "map"),kE P (Str.mk #[111,98,106,101,99,116]) 70 (.type "object"),kE P (Str.mk #[114,97,110,103,101]) 71 (.type "range"),kE P (Str.mk #[114,101,118,101,114,115,101,100]) 72 (.type "reversed"),kE P (Str.mk #[115,101,116]) 73 (.type "set"),kE P (Str.mk #[115,108,105,99,101]) 74 (.type "slice"),kE P (Str.mk #[115,116,97,116,105,99,109,101,116,104,111,100]) 75 (.type "staticmethod"),kE P (Str.mk #[115,116,114]) 76 (.type "str"),kE P (Str.mk #[115,117,112,101,114]) 77 (.type "super"),kE P (Str.mk #[116,117,112,108,101]) 78 (.type "tuple"),kE P (Str.mk #[116,121,112,101]) 79 (.type "type"),kE P (Str.mk #[122,105,112]) 80 (.type "zip"),kE P (Str.mk #[95,95,100,101,98,117,103,95,95]) 81 (.bool .true),kE P (Str.mk #[66,97,115,101,69,120,99,101,112,116,105,111,110]) 82 (.type "BaseException"),kE P (Str.mk #[66,97,115,101,69,120,99,101,112,116,105,111,110,71,114,111,117,112]) 83 (.type "BaseExceptionGroup"),kE P (Str.mk #[69,120,99,101,112,116,105,111,110]) 84 (.type "Exception"),kE P (Str.mk #[71,101,110,101,114,97,116,111,114,69,120,105,116]) 85 (.type "GeneratorExit"),kE P (Str.mk #[75,101,121,98,111,97,114,100,73,110,116,101,114,114,117,112,116]) 86 (.type "KeyboardInterrupt"),kE P (Str.mk #[83,121,115,116,101,109,69,120,105,116]) 87 (.type "SystemExit"),kE P (Str.mk #[65,114,105,116,104,109,101,116,105,99,69,114,114,111,114]) 88 (.type "ArithmeticError"),kE P (Str.mk #[65,115,115,101,114,116,105,111,110,69,114,114,111,114]) 89 (.type "AssertionError"),kE P (Str.mk #[65,116,116,114,105,98,117,116,101,69,114,114,111,114]) 90 (.type "AttributeError"),kE P (Str.mk #[66,117,102,102,101,114,69,114,114,111,114]) 91 (.type "BufferError"),kE P (Str.mk #[69,79,70,69,114,114,111,114]) 92 (.type "EOFError"),kE P (Str.mk #[73,109,112,111,114,116,69,114,114,111,114]) 93 (.type "ImportError"),kE P (Str.mk #[76,111,111,107,117,112,69,114,114,111,114]) 94 (.type "LookupError"),kE P (Str.mk #[77,101,109,111,114,121,69,114,114,111,114]) 95 (.type "MemoryError"),kE P (Str.mk #[78,97,109,101,69,114,114,111,114]) 96 (.type "NameError"),kE P (Str.mk #[79,83,69,114,114,111,114]) 97 (.type "OSError"),kE P (Str.mk #[82,101,102,101,114,101,110,99,101,69,114,114,111,114]) 98 (.type "ReferenceError"),kE P (Str.mk #[82,117,110,116,105,109,101,69,114,114,111,114]) 99 (.type "RuntimeError"),kE P (Str.mk #[83,116,111,112,65,115,121,110,99,73,116,101,114,97,116,105,111,110]) 100 (.type "StopAsyncIteration"),kE P (Str.mk #[83,116,111,112,73,116,101,114,97,116,105,111,110]) 101 (.type "StopIteration"),kE P (Str.mk #[83,121,110,116,97,120,69,114,114,111,114]) 102 (.type "SyntaxError"),kE P (Str.mk #[83,121,115,116,101,109,69,114,114,111,114]) 103 (.type "SystemError"),kE P (Str.mk #[84,121,112,101,69,114,114,111,114]) 104 (.type "TypeError"),kE P (Str.mk #[86,97,108,117,101,69,114,114,111,114]) 105 (.type "ValueError"),kE P (Str.mk #[87,97,114,110,105,110,103]) 106 (.type "Warning"),kE P (Str.mk #[70,108,111,97,116,105,110,103,80,111,105,110,116,69,114,114,111,114]) 107 (.type "FloatingPointError"),kE P (Str.mk #[79,118,101,114,102,108,111,119,69,114,114,111,114]) 108 (.type "OverflowError"),kE P (Str.mk #[90,101,114,111,68,105,118,105,115,105,111,110,69,114,114,111,114]) 109 (.type "ZeroDivisionError"),kE P (Str.mk #[66,121,116,101,115,87,97,114,110,105,110,103]) 110 (.type "BytesWarning"),kE P (Str.mk #[68,101,112,114,101,99,97,116,105,111,110,87,97,114,110,105,110,103]) 111 (.type "DeprecationWarning"),kE P (Str.mk #[69,110,99,111,100,105,110,103,87,97,114,110,105,110,103]) 112 (.type "EncodingWarning"),kE P (Str.mk #[70,117,116,117,114,101,87,97,114,110,105,110,103]) 113 (.type "FutureWarning"),kE P (Str.mk #[73,109,112,111,114,116,87,97,114,110,105,110,103]) 114 (.type "ImportWarning"),kE P (Str.mk #[80,101,110,100,105,110,103,68,101,112,114,101,99,97,116,105,111,110,87,97,114,110,105,110,103]) 115 (.type "PendingDeprecationWarning"),kE P (Str.mk #[82,101,115,111,117,114,99,101,87,97,114,110,105,110,103]) 116 (.type "ResourceWarning"),kE P (Str.mk #[82,117,110,116,105,109,101,87,97,114,110,105,110,103]) 117 (.type "RuntimeWarning"),kE P (Str.mk #[83,121,110,116,97,120,87,97,114,110,105,110,103]) 118 (.type "SyntaxWarning"),kE P (Str.mk #[85,110,105,99,111,100,101,87,97,114,110,105,110,103]) 119 (.type "UnicodeWarning"),kE P (Str.mk #[85,115,101,114,87,97,114,110,105,110,103]) 120 (.type "UserWarning"),kE P (Str.mk #[66,108,111,99,107,105,110,103,73,79,69,114,114,111,114]) 121 (.type "BlockingIOError"),kE P (Str.mk #[67,104,105,108,100,80,114,111,99,101,115,115,69,114,114,111,114]) 122 (.type "ChildProcessError"),kE P (Str.mk #[67,111,110,110,101,99,116,105,111,110,69,114,114,111,114]) 123 (.type "ConnectionError"),kE P (Str.mk #[70,105,108,101,69,120,105,115,116,115,69,114,114,111,114]) 124 (.type "FileExistsError"),kE P (Str.mk #[70,105,108,101,78,111,116,70,111,117,110,100,69,114,114,111,114]) 125 (.type "FileNotFoundError"),kE P (Str.mk #[73,110,116,101,114,114,117,112,116,101,100,69,114,114,111,114]) 126 (.type "InterruptedError"),kE P (Str.mk #[73,115,65,68,105,114,101,99,116,111,114,121,69,114,114,111,114]) 127 (.type "IsADirectoryError"),kE P (Str.mk #[78,111,116,65,68,105,114,101,99,116,111,114,121,69,114,114,111,114]) 128 (.type "NotADirectoryError"),kE P (Str.mk #[80,101,114,109,105,115,115,105,111,110,69,114,114,111,114]) 129 (.type "PermissionError"),kE P (Str.mk #[80,114,111,99,101,115,115,76,111,111,107,117,112,69,114,114,111,114]) 130 (.type "ProcessLookupError"),kE P (Str.mk #[84,105,109,101,111,117,116,69,114,114,111,114]) 131 (.type "TimeoutError"),kE P (Str.mk #[73,110,100,101,110,116,97,116,105,111,110,69,114,114,111,114]) 132 (.type "IndentationError"),kE P (Str.mk #[95,73,110,99,111,109,112,108,101,116,101,73,110,112,117,116,69,114,114,111,114]) 133 (.type "_IncompleteInputError"),kE P (Str.mk #[73,110,100,101,120,69,114,114,111,114]) 134 (.type "IndexError"),kE P (Str.mk #[75,101,121,69,114,114,111,114]) 135 (.type "KeyError"),kE P (Str.mk #[77,111,100,117,108,101,78,111,116,70,111,117,110,100,69,114,114,111,114]) 136 (.type "ModuleNotFoundError"),kE P (Str.mk #[78,111,116,73,109,112,108,101,109,101,110,116,101,100,69,114,114,111,114]) 137 (.type "NotImplementedError"),kE P (Str.mk #[80,121,116,104,111,110,70,105,110,97,108,105,122,97,116,105,111,110,69,114,114,111,114]) 138 (.type "PythonFinalizationError"),kE P (Str.mk #[82,101,99,117,114,115,105,111,110,69,114,114,111,114]) 139 (.type "RecursionError"),kE P (Str.mk #[85,110,98,111,117,110,100,76,111,99,97,108,69,114,114,111,114]) 140 (.type "UnboundLocalError"),kE P (Str.mk #[85,110,105,99,111,100,101,69,114,114,111,114]) 141 (.type "UnicodeError"),kE P (Str.mk #[66,114,111,107,101,110,80,105,112,101,69,114,114,111,114]) 142 (.type "BrokenPipeError"),kE P (Str.mk #[67,111,110,110,101,99,116,105,111,110,65,98,111,114,116,101,100,69,114,114,111,114]) 143 (.type "ConnectionAbortedError"),kE P (Str.mk #[67,111,110,110,101,99,116,105,111,110,82,101,102,117,115,101,100,69,114,114,111,114]) 144 (.type "ConnectionRefusedError"),kE P (Str.mk #[67,111,110,110,101,99,116,105,111,110,82,101,115,101,116,69,114,114,111,114]) 145 (.type "ConnectionResetError"),kE P (Str.mk #[84,97,98,69,114,114,111,114]) 146 (.type "TabError"),kE P (Str.mk #[85,110,105,99,111,100,101,68,101,99,111,100,101,69,114,114,111,114]) 147 (.type "UnicodeDecodeError"),kE P (Str.mk #[85,110,105,99,111,100,101,69,110,99,111,100,101,69,114,114,111,114]) 148 (.type "UnicodeEncodeError"),kE P (Str.mk #[85,110,105,99,111,100,101,84,114,97,110,115,108,97,116,101,69,114,114,111,114]) 149 (.type "UnicodeTranslateError"),kE P (Str.mk #[69,120,99,101,112,116,105,111,110,71,114,111,117,112]) 150 (.type "ExceptionGroup"),kE P (Str.mk #[69,110,118,105,114,111,110,109,101,110,116,69,114,114,111,114]) 151 (.type "OSError"),kE P (Str.mk #[73,79,69,114,114,111,114]) 152 (.type "OSError"),kE P (Str.mk #[111,112,101,110]) 153 (.builtin "open"),kE P (Str.mk #[113,117,105,116]) 154 (.builtin "builtins.quit#opaque"),kE P (Str.mk #[101,120,105,116]) 155 (.builtin "builtins.exit#opaque"),kE P (Str.mk #[99,111,112,121,114,105,103,104,116]) 156 (.builtin "builtins.copyright#opaque"),kE P (Str.mk #[99,114,101,100,105,116,115]) 157 (.builtin "builtins.credits#opaque"),kE P (Str.mk #[108,105,99,101,110,115,101]) 158 (.builtin "builtins.license#opaque"),kE P (Str.mk #[104,101,108,112]) 159 (.builtin "builtins.help#opaque")] 159) #[]
noncomputable def IG (P:Params):Obj:=Obj.mk (.type "dict") .none (Data.dict #[kE P Ih 162 (.ref 4),kE P Ho 163 (.ref 5)] 2) #[]
noncomputable def Hf (P:Params):Obj:=Obj.mk .none .none (Data.dict #[]) #[]
noncomputable def IX (P:Params):Obj:=Obj.mk (.type "dict") .none (Data.dict #[kE P Ip 165 (.str Fc 332),kE P Hk 166 .none,kE P Iz 167 .none,kE P Ic 168 (.builtin "__main__.__loader__#opaque"),kE P Ij 169 .none,kE P (Str.mk #[95,95,97,110,110,111,116,97,116,105,111,110,115,95,95]) 170 (.ref 6),kE P (Str.mk #[95,95,98,117,105,108,116,105,110,115,95,95]) 171 (.ref 4),kE P (Str.mk #[95,95,102,105,108,101,95,95]) 173 (.str mQ 172),kE P (Str.mk #[95,95,99,97,99,104,101,100,95,95]) 174 .none,kE P EL 195 (.ref 21),kE P sf 202 (.ref 28),kE P rg 209 (.ref 35),kE P rA 219 (.ref 42),kE P rZ 231 (.ref 50),kE P (Str.mk #[69,77,80,84,89,83,84,82,73,78,71]) 235 (.str (Str.mk #[]) 234),kE P zu 331 (.ref 130),kE P s6 339 (.ref 139),kE P sN 345 (.ref 144),kE P ro 351 (.ref 149),kE P rT 357 (.ref 154),kE P sH 363 (.ref 159)] 21) #[]
noncomputable def Gb (P:Params):Obj:=mZ BN Eu mQ 285 60 1 0 3 91 true 181 92 (.ref 93) (.ref 94) (.ref 95) 289 290
noncomputable def Dd (P:Params):Obj:=mZ AU D6 mQ 292 63 1 0 3 98 true 181 99 (.ref 100) (.ref 101) (.ref 102) 296 297
noncomputable def Fo (P:Params):Obj:=Obj.mk (.type "dict") .none (Data.dict #[kE P (Str.mk #[95,95,109,111,100,117,108,101,95,95]) 243 (.str mR 232),kE P (Str.mk #[95,95,102,105,114,115,116,108,105,110,101,110,111,95,95]) 247 (.int 41 246),kE P Ce 257 (.ref 67),kE P Cp 266 (.ref 74),kE P AC 276 (.ref 82),kE P BQ 284 (.ref 90),kE P BN 291 (.ref 97),kE P AU 298 (.ref 104),kE P Ao 306 (.ref 112),kE P Au 313 (.ref 119),kE P Ca 321 (.ref 127),kE P (Str.mk #[95,95,115,116,97,116,105,99,95,97,116,116,114,105,98,117,116,101,115,95,95]) 323 (.ref 128),kE P Gq 326 (.ref 131),kE P FP 328 (.ref 132),kE P Hk 329 .none] 5) #[]
noncomputable def zS (P:Params):Obj:=Obj.mk (.type "type") .none (Data.cls (ClassData.mk zu [.type "list"] [.ref 130,.type "list",.type "object"] 129 zu .true [] [] .false .none .false)) #[.some (.ref 51),.none,.some (.str zu 236),.some (.str zu 244),.some (.builtin "list.__new__"),.some (.bool .true)]
noncomputable def CV (P:Params):Obj:=mZ rT rT mQ 352 92 3 0 3 150 true 181 151 .none .none (.ref 152) 355 356
noncomputable abbrev ji:KT:=.nil
noncomputable abbrev cj (o:Obj) (l r:KT):KT:=.node (.some o) l r
noncomputable abbrev Ez (l r:KT):KT:=.node .none l r
noncomputable abbrev dF (o:Obj):KT:=.node (.some o) .nil .nil
noncomputable def Fm (P:Params):KT:=(cj (IP P) (cj (IG P) (cj (IX P) (cj (d7 #[]) (cj (d7 #[]) (cj (d7 #[.str Ap 206]) (cj (d7 #[.str oJ 253,.str (Str.mk #[105,110,105,116,105,97,108,95,115,105,122,101]) 254]) (dF (oE Ca D8 (ms 8 8) 3 [(wF,54)] .none mR 232 (.ref 126) (.ref 120))) ji) (cj (og BN Eu (ms 8 4)) (dF (oE sH sH (st 14) 3 [] .none Fc 332 (.ref 158) .none)) ji)) (cj (d7 #[]) (cj (d7 #[]) (dF (mZ sN sN mQ 340 84 3 0 3 140 true 181 141 .none .none (.ref 142) 343 344)) ji) (dF (mZ Ao E8 mQ 299 66 2 0 3 106 true 181 107 (.ref 108) (.ref 109) (.ref 110) 304 305)))) (cj (oX #[]) (cj (d7 #[]) (cj (d7 #[]) (dF (d7 #[])) ji) (dF (Dd P))) (Ez (dF (d7 #[])) (dF (oE Au E1 (ms 8 7) 3 [] .none mR 232 (.ref 118) .none))))) (cj (d7 #[]) (cj (og EL EL (st 1)) (cj (oE rg rg (st 3) 3 [] .none xE 187 (.ref 34) .none) (cj (oE Ce Dx (ms 8 0) 3 [(wF,54)] (.ref 59) mR 232 (.ref 66) (.ref 60)) (dF (Obj.mk (.type "getset_descriptor") .none (Data.fields #[.str Gq 325,.ref 130,.builtin "function.__dict__",.builtin "function.__dict__#set"]) #[])) ji) ji) (cj (d7 #[.type "list"]) (cj (d7 #[.ref 54]) (dF (og ro ro (st 12))) ji) (dF (d7 #[.str oJ 310])))) (cj (mZ sf sf mQ 196 4 1 0 3 22 true 181 23 (.ref 24) (.ref 25) (.ref 26) 200 201) (cj (d7 #[.int 0 220]) (cj (d7 #[.int 0 267]) (dF (oE s6 s6 (st 10) 3 [] .none Fc 332 (.ref 138) .none)) ji) (dF (oX #[]))) (cj (d7 #[.int 0 248]) (cj (d7 #[]) (dF (d7 #[])) ji) (dF (d7 #[.str oJ 318])))))) (cj (Obj.mk (.type "module") (.some 3) Data.plain #[]) (cj (mZ Ck Ck mQ 176 1 0 0 0 7 false 175 8 .none .none .none 179 180) (cj (d7 #[.str Ap 192]) (cj (og rg rg (st 3)) (cj (og Ce Dx (ms 8 0)) (dF (Fo P)) ji) (dF (oE BN Eu (ms 8 4) 3 [] .none mR 232 (.ref 96) .none))) (cj (mZ rZ rZ mQ 221 14 2 0 3 44 true 181 45 (.ref 46) (.ref 47) (.ref 48) 229 230) (cj (mZ AC Ev mQ 268 50 2 0 3 76 true 181 77 (.ref 78) (.ref 79) (.ref 80) 274 275) (dF (d7 #[])) ji) (dF (d7 #[])))) (cj (d7 #[]) (cj (mZ rA rA mQ 210 8 2 0 3 36 true 181 37 (.ref 38) (.ref 39) (.ref 40) 217 218) (cj (mZ Cp EW mQ 258 47 3 0 3 68 true 181 69 (.ref 70) (.ref 71) (.ref 72) 264 265) (dF (og s6 s6 (st 10))) ji) (dF (d7 #[.none]))) (Ez (cj (mZ BQ DS mQ 277 55 1 0 3 84 true 181 85 (.ref 86) (.ref 87) (.ref 88) 282 283) (dF (CV P)) ji) (dF (d7 #[.str wF 317]))))) (cj (mZ Ck Ck mQ 182 1 0 0 0 11 false 181 12 .none .none .none 185 186) (cj (oE EL EL (st 1) 3 [] .none xE 187 (.ref 20) .none) (cj (oX #[]) (dF (oX #[])) (dF (d7 #[]))) (Ez (cj (oX #[]) (dF (oE ro ro (st 12) 3 [] .none Fc 332 (.ref 148) .none)) ji) (dF (og Au E1 (ms 8 7))))) (cj (d7 #[]) (cj (oX #[]) (cj (oX #[]) (dF (oX #[])) ji) (dF (d7 #[]))) (cj (d7 #[.str wF 252]) (cj (d7 #[.str oJ 288]) (dF (og sH sH (st 14))) ji) (dF (og Ca D8 (ms 8 8)))))))) (cj (Hf P) (cj (Obj.mk (.type "module") (.some 0) Data.plain #[]) (cj (oX #[]) (cj (oX #[]) (cj (d7 #[]) (cj (d7 #[]) (dF (d7 #[.str (Str.mk #[95,105,110,105,116,105,97,108,95,115,105,122,101]) 322])) ji) (dF (Gb P))) (cj (og rZ rZ (st 5)) (cj (og AC Ev (ms 8 2)) (dF (oE sN sN (st 11) 3 [] .none Fc 332 (.ref 143) .none)) ji) (dF (oE Ao E8 (ms 8 6) 3 [] (.ref 105) mR 232 (.ref 111) .none)))) (cj (d7 #[.str Ap 199]) (cj (og rA rA (st 4)) (cj (og Cp EW (ms 8 1)) (dF (oX #[])) ji) (dF (oE AU D6 (ms 8 5) 3 [] .none mR 232 (.ref 103) .none))) (Ez (cj (og BQ DS (ms 8 3)) (dF (og rT rT (st 13))) ji) (dF (d7 #[.ref 54]))))) (cj (oX #[.int 2 0,.int 0 0,.ref 20,.int 4 0,.int 0 0,.ref 27,.int 6 0,.int 0 0,.ref 34,.int 8 0,.int 0 0,.ref 41,.int 14 0,.int 0 0,.ref 49,.int 41 0,.int 0 0,.ref 57,.int 78 0,.int 0 0,.ref 138,.int 84 0,.int 0 0,.ref 143,.int 87 0,.int 0 0,.ref 148,.int 92 0,.int 0 0,.ref 153,.int 134 0,.int 0 0,.ref 158]) (cj (mZ EL EL mQ 189 2 1 0 3 15 true 181 16 (.ref 17) (.ref 18) (.ref 19) 193 194) (cj (d7 #[]) (cj (d7 #[]) (dF (Obj.mk (.type "getset_descriptor") .none (Data.fields #[.str FP 327,.ref 130,.builtin "ExceptionGroup.__weakref__",.none]) #[])) ji) (dF (d7 #[.str oJ 295]))) (Ez (cj (d7 #[.str wF 280]) (dF (mZ ro ro mQ 346 87 2 0 3 145 true 181 146 .none .none (.ref 147) 349 350)) ji) (dF (d7 #[])))) (cj (oE sf sf (st 2) 3 [] .none xE 187 (.ref 27) .none) (cj (d7 #[]) (cj (d7 #[]) (dF (d7 #[])) ji) (dF (d7 #[.str oJ 302,.str (Str.mk #[115,116,97,114,116,118,97,108]) 303]))) (cj (d7 #[.ref 54]) (Ez (dF (oX #[])) ji) (dF (d7 #[])))))) (cj (Obj.mk (.type "dict") .none (Data.dict #[]) #[]) (cj (Obj.mk (.type "frame") .none Data.plain #[.some (.ref 9),.some (.ref 3),.some (.ref 3),.none,.some (.str Ho 164),.none,.some (.ref 0)]) (cj (d7 #[]) (cj (mZ rg rg mQ 203 6 1 0 3 29 true 181 30 (.ref 31) (.ref 32) (.ref 33) 207 208) (cj (mZ Ce Dx mQ 249 43 2 0 3 61 true 181 62 (.ref 63) (.ref 64) (.ref 65) 255 256) (dF (zS P)) ji) (dF (d7 #[]))) (cj (oE rZ rZ (st 5) 3 [] (.ref 43) xE 187 (.ref 49) .none) (cj (oE AC Ev (ms 8 2) 3 [] (.ref 75) mR 232 (.ref 81) .none) (dF (oX #[])) ji) (dF (oX #[])))) (cj (og sf sf (st 2)) (cj (oE rA rA (st 4) 3 [] .none xE 187 (.ref 41) .none) (cj (oE Cp EW (ms 8 1) 3 [] .none mR 232 (.ref 73) .none) (dF (mZ s6 s6 mQ 334 78 1 0 3 135 true 181 136 .none .none (.ref 137) 337 338)) ji) (dF (d7 #[]))) (Ez (cj (oE BQ DS (ms 8 3) 3 [(wF,54)] .none mR 232 (.ref 89) (.ref 83)) (dF (oE rT rT (st 13) 3 [] .none Fc 332 (.ref 153) .none)) ji) (dF (oX #[]))))) (cj (Obj.mk (.type "frame") .none Data.plain #[.some (.ref 13),.some (.ref 3),.some (.ref 3),.none,.some (.str Ho 164),.none,.some (.ref 0)]) (cj (d7 #[]) (cj (d7 #[.str Ap 213,.str (Str.mk #[98]) 214,.str (Str.mk #[99,111,117,110,116]) 215,.str (Str.mk #[105]) 216]) (dF (d7 #[.str oJ 261,.str (Str.mk #[102,119,115]) 262,.str (Str.mk #[115,116,114,105,110,103]) 263])) (dF (og AU D6 (ms 8 5)))) (cj (Obj.mk (.type "cell") .none (Data.cell (.some (.ref 130))) #[]) (cj (d7 #[.str oJ 281]) (dF (d7 #[])) ji) (dF (mZ Au E1 mQ 307 72 1 0 3 113 true 181 114 (.ref 115) (.ref 116) (.ref 117) 311 312)))) (cj (oX #[]) (cj (d7 #[.str (Str.mk #[111,98,106]) 224,.str (Str.mk #[100,101,102,97,117,108,116]) 225,.str (Str.mk #[109,115,103]) 226,.str (Str.mk #[104,105,110,116]) 227,.str (Str.mk #[118,97,108]) 228]) (cj (d7 #[.str oJ 271,.str (Str.mk #[105]) 272,.str (Str.mk #[112,111,112,112,101,100]) 273]) (dF (og sN sN (st 11))) ji) (dF (og Ao E8 (ms 8 6)))) (cj (oX #[]) (cj (d7 #[]) (dF (mZ sH sH mQ 358 134 1 0 3 155 true 181 156 .none .none (.ref 157) 361 362)) ji) (dF (mZ Ca D8 mQ 314 75 1 0 3 121 true 181 122 (.ref 123) (.ref 124) (.ref 125) 319 320))))))))
end
noncomputable abbrev BG:={ g:Array GenState // ∀ y∈g,y.bare=true }
noncomputable def BG.nil:BG:=⟨#[],λ y h=>by simp at h⟩
noncomputable def BG.fin (g:BG):BG:=⟨g.1.push .finished,λ y h=>by
 rcases Array.mem_push.mp h with h|rfl
 ·exact g.2 y h
 ·rfl⟩
noncomputable abbrev KF:=Addr→Option Obj
variable {P:KF}
noncomputable abbrev RP:=Result→Shared→Prop
noncomputable abbrev iT:=Array (Option Value)
variable {ss:iT}
noncomputable abbrev VA:=Array Value
variable {xs ys:VA}
theorem bd (h:Heap):∃ N,h.objs.size=N:=⟨_,rfl⟩
theorem G3 (a:α):∃ x,x=a:=⟨_,rfl⟩
section
universe u
variable {α:Type u}{J X Y Z V:Type}
noncomputable def B2 (f:Bool→α):α×α:=(f false,f true)
noncomputable def B4 (f:Bool→Bool→α):(α×α)×(α×α):=(B2 (f false),B2 (f true))
noncomputable def O2 (f:Option X→Bool→α):(α×α)×(X→α×α):=(B2 (f none),λ z=>B2 (f (some z)))
noncomputable def N2 (f:Nat→Bool→α):(α×α)×(Nat→α×α):=(B2 (f 0),λ z=>B2 (f (z+1)))
noncomputable def N4 (f:Nat→Bool→Bool→α):((α×α)×(α×α))×(Nat→(α×α)×(α×α)):=(B4 (f 0),λ z=>B4 (f (z+1)))
noncomputable def T2 (f:Nat→Bool→α):Nat→List (α×α)
 |0=>[]
 |k+1=>B2 (f k)::T2 f k
noncomputable def T4 (f:Nat→Bool→Bool→α):Nat→List ((α×α)×(α×α))
 |0=>[]
 |k+1=>B4 (f (k+1))::T4 f k
noncomputable def J2 (a:J) (e:X→Y→J) (f:J→Bool→α):(α×α)×(X→Y→α×α):=(B2 (f a),λ x y=>B2 (f (e x y)))
noncomputable def K2 (a:J) (e:X→Y→Z→V→J) (f:J→Bool→α):(α×α)×(X→Y→Z→V→α×α):=(B2 (f a),λ x y z v=>B2 (f (e x y z v)))
noncomputable def K4 (a:J) (e:X→Y→Z→V→J) (f:J→Bool→Bool→α):((α×α)×(α×α))×(X→Y→Z→V→(α×α)×(α×α)):=(B4 (f a),λ x y z v=>B4 (f (e x y z v)))
noncomputable def V4 (a a':J) (f:J→Bool→Bool→α):((α×α)×(α×α))×((α×α)×(α×α)):=(B4 (f a),B4 (f a'))
theorem bq {f g:Bool→α}(c:Bool) (h:B2 f=B2 g):f c=g c:=by
 cases c
 ·exact congrArg (·.1) h
 ·exact congrArg (·.2) h
theorem CQ {f g:Bool→Bool→α}(c b:Bool) (h:B4 f=B4 g):f c b=g c b:=by
 cases c
 ·exact bq b (congrArg (·.1) h)
 ·exact bq b (congrArg (·.2) h)
theorem oq {f g:Option X→Bool→α}(o:Option X) (c:Bool) (h:O2 f=O2 g):f o c=g o c:=by
 cases o with
 |none=>exact bq c (congrArg (·.1) h)
 |some z=>exact bq (f:=f (some z)) (g:=g (some z)) c (congrFun (congrArg (·.2) h) z)
theorem nq {f g:Nat→Bool→α}(o:Nat) (c:Bool) (h:N2 f=N2 g):f o c=g o c:=by
 cases o with
 |zero=>exact bq c (congrArg (·.1) h)
 |succ z=>exact bq (f:=f (z+1)) (g:=g (z+1)) c (congrFun (congrArg (·.2) h) z)
theorem IO {f g:Nat→Bool→Bool→α}(z:Nat) (c b:Bool) (h:N4 f=N4 g):f z c b=g z c b:=by
 cases z with
 |zero=>exact CQ c b (congrArg (·.1) h)
 |succ z=>exact CQ (f:=f (z+1)) (g:=g (z+1)) c b (congrFun (congrArg (·.2) h) z)
theorem G9 {f g:Nat→Bool→α}{n:Nat}(k:Nat) (hn:n < k) (c:Bool) (h:T2 f k=T2 g k):f n c=g n c:=by
 induction k with
 |zero=>exact absurd hn (Nat.not_lt_zero _)
 |succ k ih=>
  obtain ⟨h1,h2⟩:=List.cons.inj h
  rcases Nat.lt_or_eq_of_le (Nat.le_of_lt_succ hn) with q|q
  ·exact ih q h2
  ·rw [q];exact bq (f:=f k) (g:=g k) c h1
theorem IZ {f g:Nat→Bool→Bool→α}{n:Nat}(k:Nat) (h0:¬ n=0) (hn:n < k+1) (c b:Bool) (h:T4 f k=T4 g k):f n c b=g n c b:=by
 induction k with
 |zero=>exact absurd (Nat.le_zero.mp (Nat.le_of_lt_succ hn)) h0
 |succ k ih=>
  obtain ⟨h1,h2⟩:=List.cons.inj h
  rcases Nat.lt_or_eq_of_le (Nat.le_of_lt_succ hn) with q|q
  ·exact ih q h2
  ·rw [q];exact CQ (f:=f (k+1)) (g:=g (k+1)) c b h1
variable {js a a':J}
theorem jq {b:X→Y→J}{f g:J→Bool→α}(hj:js=a∨∃ x y,js=b x y) (c:Bool) (h:J2 a b f=J2 a b g):f js c=g js c:=by
 rcases hj with rfl|⟨x,y,rfl⟩
 ·exact bq c (congrArg (·.1) h)
 ·exact bq (f:=f (b x y)) (g:=g (b x y)) c (congrFun (congrFun (congrArg (·.2) h) x) y)
theorem IQ {f g:J→Bool→Bool→α}(hj:js=a∨js=a') (c b:Bool) (h:V4 a a' f=V4 a a' g):f js c b=g js c b:=by
 rcases hj with rfl|rfl
 ·exact CQ c b (congrArg (·.1) h)
 ·exact CQ c b (congrArg (·.2) h)
theorem IA {e:X→Y→Z→V→J}{f g:J→Bool→Bool→α}(hj:js=a∨∃ x y z v,js=e x y z v) (c b:Bool) (h:K4 a e f=K4 a e g):f js c b=g js c b:=by
 rcases hj with rfl|⟨x,y,z,v,rfl⟩
 ·exact CQ c b (congrArg (·.1) h)
 ·exact CQ (f:=f (e x y z v)) (g:=g (e x y z v)) c b (congrFun (congrFun (congrFun (congrFun (congrArg (·.2) h) x) y) z) v)
theorem IE {e:X→Y→Z→V→J}{f g:J→Bool→α}(hj:js=a∨∃ x y z v,js=e x y z v) (c:Bool) (h:K2 a e f=K2 a e g):f js c=g js c:=by
 rcases hj with rfl|⟨x,y,z,v,rfl⟩
 ·exact bq c (congrArg (·.1) h)
 ·exact bq (f:=f (e x y z v)) (g:=g (e x y z v)) c (congrFun (congrFun (congrFun (congrFun (congrArg (·.2) h) x) y) z) v)
end
section
variable {a b c d e f g i j:α}{l:List α}
theorem bU:b∈a::b::l:=.tail _ (.head _)
theorem fG:c∈a::b::c::l:=.tail _ bU
theorem qS {l:List α}(i:Nat) {a:α}(h:l[i]?=some a):a∈l:=bQ h
theorem jX:d∈a::b::c::d::l:=.tail _ fG
theorem Ae:e∈a::b::c::d::e::l:=.tail _ jX
theorem Gk:f∈a::b::c::d::e::f::l:=.tail _ Ae
theorem F9:g∈a::b::c::d::e::f::g::l:=.tail _ Gk
theorem IS:i∈a::b::c::d::e::f::g::i::l:=.tail _ F9
end
noncomputable def KF.In (K:KF) (h:Heap):Prop:=∀ a o,K a=some o→h.get? a=some o
noncomputable abbrev aq:=List (Addr×Obj)
variable {old pf vo own' own0 old0 rest:aq}
structure ag (K:KF) (H h:Heap) (F:List Addr) (own old:aq):Prop where
 keep:∀ b o,b∉F→H.get? b=some o→h.get? b=some o
 hown:∀ p∈own,h.get? p.1=some p.2∧(p.1∈F∨H.get? p.1=none)
 hold:∀ p∈old,h.get? p.1=some p.2
 nd:((own++old).map (·.1)).Nodup
 foot:∀ a∈F,a∈own.map (·.1)
 kin:K.In h
 off:∀ p∈own,K p.1=none
 offo:∀ p∈old,K p.1=none
section
variable {K:KF}{F:List Addr}{own:aq}
theorem ag.ownAt (L:ag K H h F own old) (i:Nat) (a:Addr) (o:Obj) (e:own[i]?=some (a,o)):h.get? a=some o:=(L.hown _ (bQ e)).1
theorem ag.oldAt (L:ag K H h F own old) (i:Nat) (a:Addr) (o:Obj) (e:old[i]?=some (a,o)):h.get? a=some o:=L.hold _ (bQ e)
theorem ag.alive (L:ag K H h F own old) {o:Obj}(e:H.get? b=some o):∃ o',h.get? b=some o':=by
 by_cases hb:b∈F
 ·obtain ⟨p,hp,rfl⟩:=aY.mp (L.foot b hb)
  exact ⟨_,(L.hown p hp).1⟩
 ·exact ⟨o,L.keep b o hb e⟩
theorem ag.alloc (L:ag K H h F own old) {o:Obj}(hf:o.isFreed=false):ag K H (h.push o) F ((h.objs.size,o)::own) old:=by
 have up:∀ {b o'},h.get? b=some o'→(h.push o).get? b=some o':=λ e=>Heap.get?_push_of_some _ e
 have ne:∀ {b o'},h.get? b=some o'→b≠h.objs.size:=λ e=>Nat.ne_of_lt (Heap.lt_size e)
 refine ⟨λ b o' hb e=>up (L.keep b o' hb e),λ p hp=>?_,λ p hp=>up (L.hold p hp),?_,λ a ha=>?_,λ a o' e=>up (L.kin a o' e),λ p hp=>?_,L.offo⟩
 ·rcases bI.mp hp with rfl|hp
  ·refine ⟨Heap.get?_push_size _ hf,.inr ?_⟩
   cases q:H.get? h.objs.size with
   |none=>rfl
   |some o'=>
    obtain ⟨o₂,e₂⟩:=L.alive q
    exact absurd rfl (ne e₂)
  ·exact ⟨up (L.hown p hp).1,(L.hown p hp).2⟩
 ·rw [List.cons_append,List.map_cons,List.nodup_cons]
  refine ⟨λ hm=>?_,L.nd⟩
  obtain ⟨p,hp,e⟩:=aY.mp hm
  rcases dm.mp hp with hp|hp
  ·exact ne (L.hown p hp).1 e
  ·exact ne (L.hold p hp) e
 ·rw [List.map_cons];exact gY _ (L.foot a ha)
 ·rcases bI.mp hp with rfl|hp
  ·cases q:K h.objs.size with
   |none=>rfl
   |some o'=>exact absurd rfl (ne (L.kin _ _ q))
  ·exact L.off p hp
theorem gG {l:aq}(hn:(l.map (·.1)).Nodup) {a:Addr}{o:Obj}(hi:l[i]?=some (a,o)) (hj:l[j]?=some (a,o')):i=j:=by
 obtain ⟨hl,h1⟩:=j0.mp hi
 obtain ⟨hl',h2⟩:=j0.mp hj
 have q:=List.pairwise_iff_getElem.mp hn
 rcases Nat.lt_trichotomy i j with c|c|c
 ·exact absurd (by rw [List.getElem_map,List.getElem_map,h1,h2]) (q i j (by rw [fH];exact hl) (by rw [fH];exact hl') c)
 ·exact c
 ·exact absurd (by rw [List.getElem_map,List.getElem_map,h1,h2]) (q j i (by rw [fH];exact hl') (by rw [fH];exact hl) c)
theorem ez {l:aq}{a:Addr}{o:Obj}(hi:l[i]?=some (a,o)):(l.set i (a,o')).map (·.1)=l.map (·.1):=by
 rw [List.map_set]
 have:(l.map (·.1))[i]?=some a:=by rw [List.getElem?_map,hi];rfl
 exact set_same this
theorem ag.update (L:ag K H h F own old) {a:Addr}{o:Obj}{f:Obj→Obj}(hi:own[i]?=some (a,o)) (ho:f o=o') (hf:o'.isFreed=false):ag K H (h.update a f) F (own.set i (a,o')) old:=by
 have hm:=bQ hi
 have z:=L.hown _ hm
 have hs:Heap.SameBut a h (h.update a f):=Heap.SameBut.update ..
 have ge:(h.update a f).get? a=some o':=by
  rw [←ho]
  have hf':(f o).isFreed=false:=by rw [ho];exact hf
  first|exact Heap.get?_update_self f z.1 hf'|exact Heap.get?_update_self _ z.1 hf'
 have nd:=L.nd
 rw [aW] at nd
 have nd':=bX.mp nd
 have eo:∀ p∈own,p.1=a→p=(a,o):=λ p hp e=>key_unique nd'.1 hp hm e
 have ea:∀ p∈old,p.1≠a:=λ p hp e=>nd'.2.2 a (bW hm) p.1 (bW hp) e.symm
 refine ⟨λ b o₁ hb e=>?_,λ p hp=>?_,λ p hp=>(hs.2 _ (ea p hp)).trans (L.hold p hp),?_,λ b hb=>?_,λ b o₁ e=>?_,λ p hp=>?_,L.offo⟩
 ·have:b≠a:=by
   rintro rfl
   rcases z.2 with q|q
   ·exact hb q
   ·rw [e] at q;cases q
  exact (hs.2 b this).trans (L.keep b o₁ hb e)
 ·obtain ⟨j,hj⟩:=List.mem_iff_getElem?.mp hp
  by_cases ij:i=j
  ·subst ij
   have hl:i < own.length:=(j0.mp hi).1
   rw [List.getElem?_set_self hl] at hj
   cases hj
   exact ⟨ge,z.2⟩
  ·rw [List.getElem?_set_ne ij] at hj
   have hp':=bQ hj
   have ne:p.1≠a:=λ e=>by
    have:=eo p hp' e
    subst this
    exact ij (gG nd'.1 hi hj)
   exact ⟨(hs.2 _ ne).trans (L.hown p hp').1,(L.hown p hp').2⟩
 ·rw [aW,ez hi,←aW];exact L.nd
 ·rw [ez hi];exact L.foot b hb
 ·have:b≠a:=by
   rintro rfl
   have:=L.off _ hm
   rw [e] at this;cases this
  exact (hs.2 b this).trans (L.kin b o₁ e)
 ·rcases List.mem_or_eq_of_mem_set hp with hp|rfl
  ·exact L.off p hp
  ·exact L.off (a,o) hm
structure gB (h h':Heap) (foot:List Addr) (new:aq):Prop where
 keep:∀ b o,b∉foot→h.get? b=some o→h'.get? b=some o
 hnew:∀ p∈new,h'.get? p.1=some p.2∧h.get? p.1=none
 nd:(new.map (·.1)).Nodup
theorem ag.start {own:aq}(kin:K.In h) (ho:∀ p∈own++old,h.get? p.1=some p.2) (nd:((own++old).map (·.1)).Nodup) (off:∀ p∈own++old,K p.1=none):ag K h h (own.map (·.1)) own old:=
 ⟨λ _ _ _ e=>e,λ p hp=>⟨ho p (aI _ hp),.inl (bW hp)⟩,λ p hp=>ho p (bu _ hp),nd,λ _ h=>h,kin,λ p hp=>off p (aI _ hp),λ p hp=>off p (bu _ hp)⟩
theorem ag.after (L:ag K H h F own old) {h':Heap}{foot:List Addr}{new:aq}(P:gB h h' foot new) (own':aq) (hm:own'.map (·.1)=own.map (·.1)) (hf:∀ a∈foot,a∈own.map (·.1)) (ho:∀ p∈own',h'.get? p.1=some p.2):
  ag K H h' F (new++own') old:=by
 have hfk:∀ {a},a∈foot→K a=none:=λ {a} ha=>by
  obtain ⟨p,hp,rfl⟩:=aY.mp (hf a ha)
  exact L.off p hp
 have nd0:=L.nd
 rw [aW] at nd0
 have hfo:∀ p∈old,p.1∉foot:=λ p hp ha=>(bX.mp nd0).2.2 p.1 (hf _ ha) p.1 (bW hp) rfl
 have own0:∀ p∈own',∃ q∈own,q.1=p.1:=λ p hp=>by
  have:p.1∈own.map (·.1):=hm▸bW hp
  obtain ⟨q,hq,e⟩:=aY.mp this
  exact ⟨q,hq,e⟩
 refine ⟨λ b o hb e=>?_,λ p hp=>?_,λ p hp=>P.keep _ _ (hfo p hp) (L.hold p hp),?_,λ a ha=>?_,λ a o e=>P.keep a o (λ ha=>by rw [hfk ha] at e;cases e) (L.kin a o e),λ p hp=>?_,L.offo⟩
 ·refine P.keep b o (λ ha=>?_) (L.keep b o hb e)
  obtain ⟨p,hp,rfl⟩:=aY.mp (hf b ha)
  rcases (L.hown p hp).2 with q|q
  ·exact hb q
  ·rw [e] at q;cases q
 ·rcases dm.mp hp with hp|hp
  ·refine ⟨(P.hnew p hp).1,.inr ?_⟩
   cases q:H.get? p.1 with
   |none=>rfl
   |some o=>
    obtain ⟨o',e'⟩:=L.alive q
    rw [(P.hnew p hp).2] at e';cases e'
  ·obtain ⟨q,hq,e⟩:=own0 p hp
   exact ⟨ho p hp,e▸(L.hown q hq).2⟩
 ·rw [bC,aW,aW,hm,←aW]
  refine bX.mpr ⟨P.nd,L.nd,λ a ha b hb e=>?_⟩
  subst e
  obtain ⟨p,hp,rfl⟩:=aY.mp ha
  obtain ⟨q,hq,e⟩:=aY.mp hb
  have n:=(P.hnew p hp).2
  rw [←e] at n
  rcases dm.mp hq with hq|hq
  ·rw [(L.hown q hq).1] at n;cases n
  ·rw [L.hold q hq] at n;cases n
 ·rw [aW,hm];exact bu _ (L.foot a ha)
 ·rcases dm.mp hp with hp|hp
  ·cases q:K p.1 with
   |none=>rfl
   |some o=>
    have:=L.kin _ _ q
    rw [(P.hnew p hp).2] at this;cases this
  ·obtain ⟨q,hq,e⟩:=own0 p hp
   exact e▸L.off q hq
theorem ag.sub (L:ag K H h F own old) (own' old':aq) (h1:own'.Sublist own) (h2:∀ p∈old',p∈own++old) (h3:((own'++old').map (·.1)).Nodup) (h4:∀ a∈F,a∈own'.map (·.1)):ag K H h F own' old':=by
 refine ⟨L.keep,λ p hp=>L.hown p (h1.subset hp),λ p hp=>?_,h3,h4,L.kin,λ p hp=>L.off p (h1.subset hp),λ p hp=>?_⟩
 ·rcases dm.mp (h2 p hp) with q|q
  ·exact (L.hown p q).1
  ·exact L.hold p q
 ·rcases dm.mp (h2 p hp) with q|q
  ·exact L.off p q
  ·exact L.offo p q
end
variable {h':Heap}
section
variable {prog:Program}{A:Around}{c:Code}{Q:α→Shared→Prop}{g:BG}{t:Nat}{os:OsState}
 {K:KF}{F:List Addr}{own:aq}
variable {fs:List Frame}{P:End→Shared→Prop}
end
structure Ar (A A₀:Around):Prop where
 hd:A.handled=A₀.handled
 dp:A.depth≤A₀.depth
 fr:A₀.frames=none∨A₀.frames=A.frames
 gd:A₀.guards=none∨A₀.guards=A.guards
 un:A.units≤A₀.units
variable {A₀:Around}{hd:Option Value}
theorem aM {A:Around}{c:Code}{R:Result→Shared→Prop}{s:Shared}(a:Ar A A₀) (h:codeAny M A₀ c R s):codeAny M A c R s:=by
 intro Γ p hc hΓ
 refine h Γ p hc ⟨hΓ.1.trans a.hd,cP hΓ.2.1 a.dp,λ l hl=>?_,λ g hg=>?_,cP hΓ.2.2.2.2 a.un⟩
 ·rcases a.fr with e|e
  ·rw [e] at hl;cases hl
  ·exact hΓ.2.2.1 l (e▸hl)
 ·rcases a.gd with e|e
  ·rw [e] at hg;cases hg
  ·exact hΓ.2.2.2.1 g (e▸hg)
theorem ag.nil {K:KF}(kin:K.In h):ag K h h [] [] []:=ag.start (own:=[]) (old:=[]) kin (λ _ h=>nomatch h) List.nodup_nil (λ _ h=>nomatch h)
theorem ag.addOld {K:KF}{F:List Addr}{own:aq}(L:ag K h h F own old) {a:Addr}{o:Obj}(hp:h.get? a=some o) (op:K a=none) (ne:∀ p∈own++old,a≠p.1):ag K h h F own ((a,o)::old):=by
 refine ⟨L.keep,L.hown,λ p hp'=>?_,?_,L.foot,L.kin,L.off,λ p hp'=>?_⟩
 ·rcases bI.mp hp' with rfl|hp'
  ·exact hp
  ·exact L.hold p hp'
 ·have e:(own++(a,o)::old).map (·.1)=own.map (·.1)++a::old.map (·.1):=by simp
  rw [e]
  have nd:=L.nd
  rw [aW] at nd
  have nd':=bX.mp nd
  have na:∀ {l:aq},(∀ p∈l,p∈own++old)→a∉l.map (·.1):=λ hl hm=>by
   obtain ⟨p,hp',e⟩:=aY.mp hm
   exact ne p (hl p hp') e.symm
  refine bX.mpr ⟨nd'.1,List.nodup_cons.mpr ⟨na λ p h=>bu _ h,nd'.2.1⟩,λ x hx y hy=>?_⟩
  rcases bI.mp hy with rfl|hy
  ·exact λ e=>na (λ p h=>aI _ h) (e▸hx)
  ·exact nd'.2.2 x hx y hy
 ·rcases bI.mp hp' with rfl|hp'
  ·exact op
  ·exact L.offo p hp'
theorem ag.addOwn {K:KF}{F:List Addr}{own:aq}(L:ag K h h F own old) {a:Addr}{o:Obj}(hp:h.get? a=some o) (op:K a=none) (ne:∀ p∈own++old,a≠p.1):ag K h h (a::F) ((a,o)::own) old:=by
 refine ⟨λ b o' hb e=>L.keep b o' (λ q=>hb (.tail _ q)) e,λ p hp'=>?_,L.hold,?_,λ b hb=>?_,L.kin,λ p hp'=>?_,L.offo⟩
 ·rcases bI.mp hp' with rfl|hp'
  ·exact ⟨hp,.inl (.head _)⟩
  ·exact ⟨(L.hown p hp').1,(L.hown p hp').2.imp (λ q=>.tail _ q) id⟩
 ·rw [List.cons_append,List.map_cons,List.nodup_cons]
  refine ⟨λ hm=>?_,L.nd⟩
  obtain ⟨p,hp',e⟩:=aY.mp hm
  exact ne p hp' e.symm
 ·rcases bI.mp hb with rfl|hb
  ·exact .head _
  ·exact .tail _ (L.foot b hb)
 ·rcases bI.mp hp' with rfl|hp'
  ·exact op
  ·exact L.off p hp'
section
variable {K:KF}{F:List Addr}{own new:aq}
theorem ag.after0 (L:ag K H h F own old) (P:gB h h' [] new):ag K H h' F (new++own) old:=
 L.after P own rfl (λ _ h=>nomatch h) (λ p hp=>P.keep _ _ (λ h=>nomatch h) (L.hown p hp).1)
theorem lh {l:aq}(nd:(l.map (·.1)).Nodup) {a:Addr}{o:Obj}(hi:l[i]?=some (a,o)) {p:Addr×Obj}(hp:p∈l.set i (a,o')):p=(a,o')∨(p∈l∧p.1≠a):=by
 obtain ⟨j,hj⟩:=List.mem_iff_getElem?.mp hp
 by_cases ij:i=j
 ·subst ij
  have hl:i < l.length:=(j0.mp hi).1
  rw [List.getElem?_set_self hl] at hj
  cases hj
  exact .inl rfl
 ·rw [List.getElem?_set_ne ij] at hj
  refine .inr ⟨bQ hj,λ e=>ij ?_⟩
  obtain ⟨b,ob⟩:=p
  dsimp only at e
  subst e
  exact gG nd hi hj
theorem ag.ndOwn (L:ag K H h F own old):(own.map (·.1)).Nodup:=by
 have nd:=L.nd
 rw [aW] at nd
 exact (bX.mp nd).1
theorem ag.after1 (L:ag K H h F own old) (i:Nat) (a:Addr) (o o':Obj) (P:gB h h' [a] new) (hi:own[i]?=some (a,o)) (ho:h'.get? a=some o'):ag K H h' F (new++own.set i (a,o')) old:=by
 refine L.after P _ (ez hi) (λ b hb=>?_) λ p hp=>?_
 ·rw [ci.mp hb];exact bW (bQ hi)
 ·rcases lh L.ndOwn hi hp with rfl|⟨hm,hn⟩
  ·exact ho
  ·exact P.keep _ _ (λ q=>hn (ci.mp q)) (L.hown p hm).1
theorem ag.after2 (L:ag K H h F own old) (i j:Nat) (a b:Addr) (o o' q q':Obj) (P:gB h h' [a,b] new) (hi:own[i]?=some (a,o)) (hj:own[j]?=some (b,q)) (hij:Nat.beq i j=false) (ho:h'.get? a=some o') (hq:h'.get? b=some q'):
  ag K H h' F (new++(own.set i (a,o')).set j (b,q')) old:=by
 have ij:i≠j:=λ e=>by subst e;rw [Nat.beq_refl] at hij;cases hij
 have hj':(own.set i (a,o'))[j]?=some (b,q):=by rw [List.getElem?_set_ne ij];exact hj
 refine L.after P _ ((ez hj').trans (ez hi)) (λ x hx=>?_) λ p hp=>?_
 ·rcases bI.mp hx with rfl|hx
  ·exact bW (bQ hi)
  ·rw [ci.mp hx];exact bW (bQ hj)
 ·rcases lh (by rw [ez hi];exact L.ndOwn) hj' hp with rfl|⟨hm,hn⟩
  ·exact hq
  ·rcases lh L.ndOwn hi hm with rfl|⟨hm',hn'⟩
   ·exact ho
   ·refine P.keep _ _ (λ z=>?_) (L.hown p hm').1
    rcases bI.mp z with z|z
    ·exact hn' z
    ·exact hn (ci.mp z)
theorem ag.change (L:ag K H h F own old) (i:Nat) (a:Addr) (o o':Obj) (hi:own[i]?=some (a,o)) (hs:Heap.SameBut a h h') (ho:h'.get? a=some o'):ag K H h' F (own.set i (a,o')) old:=by
 have P:gB h h' [a] []:=⟨λ b x hb e=>(hs.2 b (λ z=>hb (ci.mpr z))).trans e,λ _ h=>(nomatch h),List.nodup_nil⟩
 exact L.after1 i a o o' P hi ho
theorem ag.pushed (L:ag K H h F own old) (o:Obj) (hf:o.isFreed=false):ag K H (h.push o) F ((h.objs.size,o)::own) old:=L.alloc hf
end
theorem Hb {a f:Addr}{F:List Addr}(h1:a≠f) (h2:a∉F):a∉f::F:=λ h=>by
 rcases bI.mp h with h|h
 ·exact h1 h
 ·exact h2 h
theorem px {a:Addr}:a∉([]:List Addr):=λ h=>nomatch h
theorem gc:∀ p∈([]:aq),h.get? p.1=some p.2∧H.get? p.1=none:=λ _ h=>nomatch h
theorem gM {a:Addr}{o:Obj}{l:aq}(h1:h.get? a=some o∧H.get? a=none) (h2:∀ p∈l,h.get? p.1=some p.2∧H.get? p.1=none):∀ p∈(a,o)::l,h.get? p.1=some p.2∧H.get? p.1=none:=f0.mpr ⟨h1,h2⟩
theorem gJ {a:Addr}{o:Obj}{l:aq}(h1:a∉l.map (·.1)) (h2:(l.map (·.1)).Nodup):(((a,o)::l).map (·.1)).Nodup:=List.nodup_cons.mpr ⟨h1,h2⟩
theorem gn:(([]:aq).map (·.1)).Nodup:=List.nodup_nil
theorem ag.newAt {K:KF}{F:List Addr}{own:aq}(L:ag K H h F own old) (i:Nat) (a:Addr) (o:Obj) (hi:own[i]?=some (a,o)) (hF:a∉F):h.get? a=some o∧H.get? a=none:=
 ⟨L.ownAt i a o hi,(L.hown _ (bQ hi)).2.resolve_left hF⟩
theorem ag.mkPost {K:KF}{F:List Addr}{own:aq}(L:ag K H h F own old) (new:aq) (h1:∀ p∈new,h.get? p.1=some p.2∧H.get? p.1=none) (h2:(new.map (·.1)).Nodup):gB H h F new:=⟨L.keep,h1,h2⟩
section
variable {K:KF}{F:List Addr}{own:aq}
end
noncomputable def Sm (M:Model) (A:Around) (c:Code) (t t':Sem α):Prop:=∀ (Γ:Ctx) (p:Pos) (s:Shared) (Q:α→Pos→Shared→Prop) (E:Value→Pos→Shared→Prop),Γ.code=c→Γ.Below A→Sem.wp M Γ t' Q E p s→Sem.wp M Γ t Q E p s
section
variable {A:Around}{c:Code}
theorem Sm.own {t t':Sem α}{Q:α→Shared→Prop}{s:Shared}(h:Sm M A c t t') (x:wpOwn M A c t' Q E s):wpOwn M A c t Q E s:=λ Γ p hc hΓ=>h Γ p s _ _ hc hΓ (x Γ p hc hΓ)
theorem Sm.refl (t:Sem α):Sm M A c t t:=λ _ _ _ _ _ _ _ h=>h
theorem Sm.trans {t t' t'':Sem α}(h:Sm M A c t t') (h':Sm M A c t' t''):Sm M A c t t'':=λ Γ p s Q E hc hΓ x=>h Γ p s Q E hc hΓ (h' Γ p s Q E hc hΓ x)
theorem Sm.bind_r {x:Sem α}{f f':α→Sem β}(h:∀ a,Sm M A c (f a) (f' a)):Sm M A c (x>>=f) (x>>=f'):=λ Γ p s Q E hc hΓ z=>by
 rw [Sem.wp_bind'] at z⊢
 exact Sem.wp_mono M Γ x (λ a p' s' h'=>h a Γ p' s' Q E hc hΓ h') (λ _ _ _ h'=>h') p s z
theorem Sm.bind_l {x x':Sem α}{f:α→Sem β}(h:Sm M A c x x'):Sm M A c (x>>=f) (x'>>=f):=λ Γ p s Q E hc hΓ z=>by
 rw [Sem.wp_bind'] at z⊢
 exact h Γ p s _ _ hc hΓ z
theorem Sm.onRaise {x x':Sem α}{k:Value→Sem Unit}(h:Sm M A c x x'):Sm M A c (x.onRaise k) (x'.onRaise k):=λ Γ p s Q E hc hΓ z=>by
 rw [Sem.wp_onRaise] at z⊢
 exact h Γ p s _ _ hc hΓ z
theorem Sm.holding {x x':Sem α}(h:Sm M A c x x'):Sm M A c (holding vs x) (holding vs x'):=λ Γ p s Q E hc hΓ z=>by
 rw [Sem.wp_holding] at z⊢
 exact h Γ p s _ _ hc hΓ z
noncomputable def jM:Sem Unit:=do
 let l←currentRecursionLimit
 match Nat.beq l recursionLimit with
 |true=>pure ()
 |false=>unsupported "another limit"
theorem Sm.enter (hd:(A.under c).depth < recursionLimit):Sm M A c enterFrame jM:=λ Γ p s Q E hc hΓ z=>by
 have hIn:Γ.In (A.under c):=hc▸hΓ.in
 have hsum:((((Γ.code,p)::Γ.below).map (·.1)).map (·.frames)).sum+((((Γ.code,p)::Γ.below).map (·.1)).filter Code.isCreation).length < recursionLimit:=by
  have hge:=frameCount_ge ((Γ.code,p)::Γ.below)
  rw [frameCount_cons] at hge
  have:=hIn.2.1
  lia
 have hlt:¬ ((((Γ.code,p)::Γ.below).map (·.1)).map (·.frames)).sum≥recursionLimit:=by lia
 have hlt':¬ ((((Γ.code,p)::Γ.below).map (·.1)).map (·.frames)).sum+((((Γ.code,p)::Γ.below).map (·.1)).filter Code.isCreation).length≥recursionLimit:=by lia
 unfold jM at z
 unfold enterFrame
 simp only [Sem.wp_bind'] at z⊢
 show Sem.wp M Γ currentRecursionLimit _ _ p s
 refine Sem.wp_mono M Γ _ (λ l p' s' h'=>?_) (λ _ _ _ h'=>h') p s z
 cases hb:Nat.beq l recursionLimit with
 |false=>rw [hb] at h';exact (show False from h').elim
 |true=>
  rw [hb] at h'
  have hl:l=recursionLimit:=fW hb
  subst hl
  show Sem.wp M Γ (if nearTheLimitUnderAClaim (((Γ.code,p)::Γ.below).map (·.1)) (((((Γ.code,p)::Γ.below).map (·.1)).map (·.frames)).sum+((((Γ.code,p)::Γ.below).map (·.1)).filter Code.isCreation).length) recursionLimit=true then _ else _) _ _ p' s'
  rw [if_neg (by rw [not_nearTheLimit (p:=p) hIn hd];exact Bool.false_ne_true)]
  show Sem.wp M Γ (if ((((Γ.code,p)::Γ.below).map (·.1)).map (·.frames)).sum≥recursionLimit then _ else _) _ _ p' s'
  rw [if_neg hlt]
  show Sem.wp M Γ (if ((((Γ.code,p)::Γ.below).map (·.1)).map (·.frames)).sum+((((Γ.code,p)::Γ.below).map (·.1)).filter Code.isCreation).length≥recursionLimit then _ else _) _ _ p' s'
  rw [if_neg hlt'];exact h'
theorem Sm.wake (hd:(A.under c).depth < recursionLimit):Sm M A c roomToWake jM:=λ Γ p s Q E hc hΓ z=>by
 have hIn:Γ.In (A.under c):=hc▸hΓ.in
 have hlt':¬ ((((Γ.code,p)::Γ.below).map (·.1)).map (·.frames)).sum+((((Γ.code,p)::Γ.below).map (·.1)).filter Code.isCreation).length≥recursionLimit:=by
  have hge:=frameCount_ge ((Γ.code,p)::Γ.below)
  rw [frameCount_cons] at hge
  have:=hIn.2.1
  lia
 unfold jM at z
 unfold roomToWake
 simp only [Sem.wp_bind'] at z⊢
 show Sem.wp M Γ currentRecursionLimit _ _ p s
 refine Sem.wp_mono M Γ _ (λ l p' s' h'=>?_) (λ _ _ _ h'=>h') p s z
 cases hb:Nat.beq l recursionLimit with
 |false=>rw [hb] at h';exact (show False from h').elim
 |true=>
  rw [hb] at h'
  have hl:l=recursionLimit:=fW hb
  subst hl
  show Sem.wp M Γ (if nearTheLimitUnderAClaim (((Γ.code,p)::Γ.below).map (·.1)) (((((Γ.code,p)::Γ.below).map (·.1)).map (·.frames)).sum+((((Γ.code,p)::Γ.below).map (·.1)).filter Code.isCreation).length) recursionLimit=true then _ else _) _ _ p' s'
  rw [if_neg (by rw [not_nearTheLimit (p:=p) hIn hd];exact Bool.false_ne_true)]
  show Sem.wp M Γ (if ((((Γ.code,p)::Γ.below).map (·.1)).map (·.frames)).sum+((((Γ.code,p)::Γ.below).map (·.1)).filter Code.isCreation).length≥recursionLimit then _ else _) _ _ p' s'
  rw [if_neg hlt'];exact h'
end
set_option backward.match.sparseCases true
section
noncomputable def Zd:Code→Sem PySem.Fin:=PySem.W.ZFast.zw11892475500146522536 PySem.W.ZFast.tableZ
theorem l8 (c:Code):denote table c=Zd c:=by
 rw [PySem.W.ZFast.ze11892475500146522536,PySem.W.ZFast.tableZ_eq];rfl
inductive Hn|k|e|f|s|w (i:Nat)|o (i:Nat)|n (j:Nat)|a (j:Nat)|p (i:Nat)|c (j:Nat) (l:List Nat)
noncomputable abbrev aD:Hn:=.o 0
noncomputable abbrev bJ:Hn:=.o 1
noncomputable abbrev BR:Hn:=.o 2
noncomputable abbrev aL:Hn:=.p 0
noncomputable abbrev bY:Hn:=.p 1
noncomputable abbrev o8:Hn:=.p 2
noncomputable abbrev iD:Hn:=.p 3
noncomputable abbrev ib:Hn:=.p 4
noncomputable abbrev gF:Hn:=.p 5
noncomputable abbrev Hh:Hn:=.p 6
noncomputable abbrev kY:Hn:=.p 7
noncomputable abbrev U:Hn:=.w 0
noncomputable abbrev ay:Hn:=.w 1
noncomputable abbrev z9:Hn:=.w 10
noncomputable abbrev jP:Hn:=.w 11
noncomputable abbrev qz:Hn:=.w 12
noncomputable abbrev ix:Hn:=.w 13
noncomputable abbrev ig:Hn:=.w 14
noncomputable abbrev dX:Hn:=.w 15
noncomputable abbrev mf:Hn:=.w 16
noncomputable abbrev ft:Hn:=.w 17
noncomputable abbrev qa:Hn:=.w 18
noncomputable abbrev Fw:Hn:=.w 19
noncomputable abbrev aj:Hn:=.w 2
noncomputable abbrev df:Hn:=.w 20
noncomputable abbrev m8:Hn:=.w 21
noncomputable abbrev qd:Hn:=.w 22
noncomputable abbrev jv:Hn:=.w 23
noncomputable abbrev o0:Hn:=.w 24
noncomputable abbrev xr:Hn:=.w 29
noncomputable abbrev cS:Hn:=.w 3
noncomputable abbrev aK:Hn:=.w 4
noncomputable abbrev fv:Hn:=.w 5
noncomputable abbrev dR:Hn:=.w 6
noncomputable abbrev iY:Hn:=.w 7
noncomputable abbrev mW:Hn:=.w 8
noncomputable abbrev ow:Hn:=.w 9
inductive Kt where
 |base
 |ret (A:Around) (c:Code) (k:Result→Sem PySem.Fin) (κ:Kt)
 |gen (A:Around) (c:Code) (k:GenResult→Sem PySem.Fin) (g:Nat) (κ:Kt)
noncomputable abbrev ws:=Nat→Code→Nat→Option (Value×Nat×List (Value×Value)×List Prop)
inductive E2|v (a b:Value)|o (a b:Obj)|c (a b:Code)|l (a b:aq)|b (a b:Bool)|n (a b:Nat)
noncomputable def E2.holds (e:E2):Prop:=match e with
 |.v x y=>x=y
 |.o x y=>x=y
 |.c x y=>x=y
 |.l x y=>x=y
 |.b x y=>x=y
 |.n x y=>x=y
noncomputable def E2.dup (e:E2):E2:=match e with
 |.v _ y=>.v y y
 |.o _ y=>.o y y
 |.c _ y=>.c y y
 |.l _ y=>.l y y
 |.b _ y=>.b y y
 |.n _ y=>.n y y
theorem E2.dup_ok (e:E2):e.dup.holds:=by cases e<;>exact rfl
noncomputable def us (q:List (Value×Value)):List E2:=q.map λ y=>.v y.1 y.2
structure Ag where
 res:(Nat→Nat)→Result
 own:(Nat→Nat)→aq
 eqs:List E2
 obs:List Prop
set_option genInjectivity true in
inductive CR|need (a:Addr)|no|ok (r:Ag)
structure LE where
 own:aq
 old:aq
 pf:aq
noncomputable def LE.at (e:LE) (i:Nat):Option (Addr×Obj):=match Nat.blt i 1000 with
 |true=>e.own[i]?
 |false=>match Nat.blt i 2000 with
  |true=>e.old[i - 1000]?
  |false=>e.pf[i - 2000]?
structure Ct where
 dp:Nat
 un:Nat
 pg:Bool
 f:Code→List Nat→LE→CR
noncomputable abbrev Ct.A (C:Ct):Around:=⟨none,C.dp,none,none,C.un⟩
structure PE where
 p:Pos
 l:List (Code×Pos)
 n:Nat
 t:Nat
 g:BG
 as:Nat→Nat
noncomputable def qV:PE:=⟨default,[],0,0,BG.nil,id⟩
structure RF where
 prog:Program
 w:World
 K:KF
 H:Heap
 F:List Addr
 d:Drawn
 os:OsState
 R:RP
 nat:ws
 alt:Nat→Code→Option (Sem PySem.Fin)
 ct:List Ct
 pf:aq
 ol:aq
structure RV extends RF where
 n:Nat
 t₀:Nat
 gg:BG
noncomputable abbrev Ps:=Nat→PE
structure RS where
 V:RV
 ps:Ps
 A:Around
 c:Code
 md:Option (List Frame)
 pre:Bool
 t:Sem PySem.Fin
 κ:Kt
 own:aq
 old:aq
 m:Nat
 i:Nat
 gl:List GenState
 eqs:List E2
 ob:List Prop
 why:Nat
noncomputable abbrev bZ:=RV→Ps→List Hn→Around→Code→Option (List Frame)→Bool→Sem PySem.Fin→Kt→aq→aq→Nat→Nat→List GenState→List E2→List Prop→RS
noncomputable def aS (b:Nat):bZ:=λ V ps _ A c md pre t κ own old m i gl eqs ob=>⟨V,ps,A,c,md,pre,t,κ,own,old,m,i,gl,eqs,ob,b⟩
noncomputable def zM (ps:Ps):Ps:=λ i=>ps (i+1)
noncomputable def V2 (V:RV) (n t:Nat) (g:BG):RV:=⟨V.toRF,n,t,g⟩
noncomputable def kO (A A₀:Around):Bool:=match Nat.ble A.depth A₀.depth with
 |true=>Nat.ble A.units A₀.units
 |false=>false
noncomputable def dh (c:Code):Bool:=match c with
 |.builtin ..=>match Nat.ble c.weight 2 with
  |true=>Nat.ble c.cUnits 4
  |false=>false
 |_=>true
noncomputable def Aj (A:Around) (hd:Option Value):Around:=⟨(A.mark hd).handled,A.depth+2,none,none,A.units+4⟩
noncomputable def GI (ih:bZ) (j:Nat) (l:List Nat) (c':Code) (A':Around) (k:Result→Sem PySem.Fin):bZ:=λ V ps hs A c md pre t κ own old m i gl eqs ob=>match V.ct[j]? with
 |none=>aS 80 V ps hs A c md pre t κ own old m i gl eqs ob
 |some C=>match kO A' C.A with
  |false=>aS 81 V ps hs A c md pre t κ own old m i gl eqs ob
  |true=>match A'.handled with
   |some _=>aS 82 V ps hs A c md pre t κ own old m i gl eqs ob
   |none=>match C.f c' l ⟨own,old,V.pf⟩ with
    |.need _=>aS 83 V ps hs A c md pre t κ own old m i gl eqs ob
    |.no=>aS 84 V ps hs A c md pre t κ own old m i gl eqs ob
    |.ok r=>match C.pg with
     |true=>match gl.all GenState.bare with
      |false=>aS 89 V ps hs A c md pre t κ own old m i gl eqs ob
      |true=>ih (V2 V (ps 0).n (ps 0).t V.gg) (zM ps) hs A c md pre (k (r.res (ps 0).as)) κ (r.own (ps 0).as) old 0 0 gl (r.eqs++eqs) (r.obs++ob)
     |false=>match gl with
      |_::_=>aS 85 V ps hs A c md pre t κ own old m i gl eqs ob
      |[]=>ih (V2 V (ps 0).n (ps 0).t (ps 0).g) (zM ps) hs A c md pre (k (r.res (ps 0).as)) κ (r.own (ps 0).as) old 0 0 [] (r.eqs++eqs) (r.obs++ob)
noncomputable def yZ (q:Str) (x:Value):Str:=match x with
 |.str s _=>s
 |_=>q
noncomputable def iC (q:Str) (J:Str→Sem PySem.Fin) (c:Value):Sem PySem.Fin:=match c with
 |.none=>J q
 |c=>field c 1>>=λ x=>J (yZ q x)
noncomputable def gX (self:Addr) (fd:FuncData) (args:Args):Sem PySem.Fin:=
 iC fd.qualname (λ nm=>PySem.W.ZFast.zw9782568553167038054 fd args>>=λ b=>PySem.W.ZFast.zw11113344188204177931 fd.scope fd.globals fd.closure b (nm++".<locals>.") (some self) fd.code none fd.builtins>>=λ env=>
  again (FuncBody.casesOn fd.body (λ b=>Code.func b env) (λ e=>Code.expr e env))) fd.code
noncomputable def nf (ih:bZ) (e:End):bZ:=λ V ps hs A c md pre t κ own old m i gl eqs ob=>match κ with
 |.gen A' c' k g κ'=>match gl with
  |[]=>aS 40 V ps hs A c md pre t κ own old m i gl eqs ob
  |x::l=>match l with
   |[]=>ih V ps hs A' c' none false (k e.result) κ' own old m i [e.genState] (.v (.int g 0) (.int V.gg.1.size 0)::eqs) ob
   |_::_=>aS 41 V ps hs A c md pre t κ own old m i gl eqs ob
 |_=>aS 42 V ps hs A c md pre t κ own old m i gl eqs ob
noncomputable def En (ih:bZ) (r:Result):bZ:=λ V ps hs A c md pre t κ own old m i gl eqs ob=>match md with
 |none=>match pre with
  |true=>aS 43 V ps hs A c md pre t κ own old m i gl eqs ob
  |false=>match κ with
   |.ret A' c' k κ'=>ih V ps hs A' c' none false (k r) κ' own old m i gl eqs ob
   |_=>aS 0 V ps hs A c md pre t κ own old m i gl eqs ob
 |some fs=>match fs with
  |[]=>nf ih (.ret r) V ps hs A c md pre t κ own old m i gl eqs ob
  |f::fs'=>match f with
   |.ret k _ _ _ c₁ _ _=>ih V ps hs A c₁ (some fs') false (k r) κ own old m i gl eqs ob
   |.gen ..=>aS 44 V ps hs A c md pre t κ own old m i gl eqs ob
noncomputable def rY (ih:bZ) (hd:Option Value) (c':Code) (k:Result→Sem PySem.Fin):bZ:=λ V ps hs A c md pre t κ own old m i gl eqs ob=>
 match okMark hd with
 |false=>aS 45 V ps hs A c md pre t κ own old m i gl eqs ob
 |true=>match dh c with
  |false=>aS 88 V ps hs A c md pre t κ own old m i gl eqs ob
  |true=>ih V ps hs (Aj A hd) c' none false (Zd c') (.ret A c k κ) own old m i gl eqs ob
noncomputable def sy (ih:bZ) (hd:Option Value) (c':Code) (k:Result→Sem PySem.Fin):bZ:=λ V ps hs A c md pre t κ own old m i gl eqs ob=>
 match okMark hd with
 |false=>aS 45 V ps hs A c md pre t κ own old m i gl eqs ob
 |true=>match dh c with
  |false=>aS 88 V ps hs A c md pre t κ own old m i gl eqs ob
  |true=>match c' with
   |.call (.ref f) args=>match V.K f with
    |some o=>match o.data with
     |.func fd=>match fd.scope.isGenerator||fd.scope.isCoroutine with
      |false=>ih V ps hs (Aj A hd) c' none true (gX f fd args) (.ret A c k κ) own old m i gl eqs ob
      |true=>aS 46 V ps hs A c md pre t κ own old m i gl eqs ob
     |_=>ih V ps hs (Aj A hd) c' none false (Zd c') (.ret A c k κ) own old m i gl eqs ob
    |none=>ih V ps hs (Aj A hd) c' none false (Zd c') (.ret A c k κ) own old m i gl eqs ob
   |_=>ih V ps hs (Aj A hd) c' none false (Zd c') (.ret A c k κ) own old m i gl eqs ob
noncomputable def q8 (ih:bZ) (j:Nat) (hd:Option Value) (c':Code) (k:Result→Sem PySem.Fin):bZ:=λ V ps hs A c md pre t κ own old m i gl eqs ob=>
 match okMark hd with
 |false=>aS 45 V ps hs A c md pre t κ own old m i gl eqs ob
 |true=>match dh c with
  |false=>aS 88 V ps hs A c md pre t κ own old m i gl eqs ob
  |true=>match dh c' with
  |false=>aS 88 V ps hs A c md pre t κ own old m i gl eqs ob
  |true=>match (Nat.blt (A.depth+4) recursionLimit&&Nat.blt (A.units+8) 9900) with
   |false=>aS 72 V ps hs A c md pre t κ own old m i gl eqs ob
   |true=>match V.alt j c' with
    |none=>aS 73 V ps hs A c md pre t κ own old m i gl eqs ob
    |some t'=>ih V ps hs (Aj A hd) c' none false t' (.ret A c k κ) own old m i gl eqs ob
noncomputable def rm (ih:bZ) (j:Nat) (c':Code):bZ:=λ V ps hs A c md pre t κ own old m i gl eqs ob=>match c'.quiet with
 |false=>aS 47 V ps hs A c md pre t κ own old m i gl eqs ob
 |true=>match md with
  |some _=>aS 75 V ps hs A c md pre t κ own old m i gl eqs ob
  |none=>match (dh c&&Nat.blt (A.depth+2) recursionLimit) with
   |false=>aS 48 V ps hs A c md pre t κ own old m i gl eqs ob
   |true=>match (dh c'&&Nat.blt (A.depth+2) recursionLimit&&Nat.blt (A.units+4) 9900) with
    |false=>aS 76 V ps hs A c md pre t κ own old m i gl eqs ob
    |true=>match V.alt j c' with
     |none=>aS 77 V ps hs A c md pre t κ own old m i gl eqs ob
     |some t'=>ih V ps hs A c' none false t' κ own old m i gl eqs ob
noncomputable def sR (ih:bZ) (c':Code):bZ:=λ V ps hs A c md pre t κ own old m i gl eqs ob=>match c'.quiet with
 |false=>aS 47 V ps hs A c md pre t κ own old m i gl eqs ob
 |true=>match pre with
  |false=>ih V ps hs A c' md false (Zd c') κ own old m i gl eqs ob
  |true=>match (dh c&&Nat.blt (A.depth+2) recursionLimit) with
   |true=>ih V ps hs A c' md false (Zd c') κ own old m i gl eqs ob
   |false=>aS 48 V ps hs A c md pre t κ own old m i gl eqs ob
noncomputable def sM (ih:bZ) (j:Nat) (l:List Nat) (c':Code) (hd:Option Value) (k:Result→Sem PySem.Fin) (hs':List Hn):bZ:=λ V ps hs A c md pre t κ own old m i gl eqs ob=>match okMark hd with
 |false=>aS 45 V ps hs A c md pre t κ own old m i gl eqs ob
 |true=>match md with
  |none=>match dh c with
   |false=>aS 88 V ps hs A c md pre t κ own old m i gl eqs ob
   |true=>GI ih j l c' (Aj A hd) k V ps hs' A c none pre t κ own old m i gl eqs ob
  |some fs=>GI ih j l c' ((A.over c fs).mark hd) k V ps hs' A c (some fs) pre t κ own old m i gl eqs ob
noncomputable def ou (ih:bZ) (j:Nat) (c':Code) (hd:Option Value) (k:Result→Sem PySem.Fin) (hs':List Hn):bZ:=λ V ps hs A c md pre t κ own old m i gl eqs ob=>match okMark hd with
 |false=>aS 45 V ps hs A c md pre t κ own old m i gl eqs ob
 |true=>match V.nat j c' (V.t₀+i) with
  |some y=>ih V ps hs' A c md pre (k (.ok (.ret y.1))) κ own old m (i+y.2.1) gl (us y.2.2.1++eqs) (y.2.2.2++ob)
  |none=>aS 50 V ps hs A c md pre t κ own old m i gl eqs ob
noncomputable def nT (ih:bZ) (j:Nat) (l:List Nat) (c':Code) (hs':List Hn):bZ:=λ V ps hs A c md pre t κ own old m i gl eqs ob=>match md with
 |some _=>aS 86 V ps hs A c md pre t κ own old m i gl eqs ob
 |none=>match pre with
  |true=>aS 87 V ps hs A c md pre t κ own old m i gl eqs ob
  |false=>match c'.quiet with
   |false=>aS 47 V ps hs A c md pre t κ own old m i gl eqs ob
   |true=>GI ih j l c' A leafOf V ps hs' A c none false t κ own old m i gl eqs ob
noncomputable def Dc (ih:bZ) (c':Code) (hd:Option Value) (g:Bool) (l:List Value) (k:Result→Sem PySem.Fin):bZ:=λ V ps hs A c md pre t κ own old m i gl eqs ob=>match hs with
 |[]=>aS 21 V ps hs A c md pre t κ own old m i gl eqs ob
 |h::hs'=>match pre with
  |true=>aS 49 V ps hs A c md pre t κ own old m i gl eqs ob
  |false=>match h with
   |.f=>match md with
    |none=>sy ih hd c' k V ps hs' A c md pre t κ own old m i gl eqs ob
    |some _=>aS 18 V ps hs A c md pre t κ own old m i gl eqs ob
   |.e=>match md with
    |none=>rY ih hd c' k V ps hs' A c md pre t κ own old m i gl eqs ob
    |some fs=>ih V (zM ps) hs' A c' (some (.ret k hd g l c (ps 0).p []::fs)) false (Zd c') κ own old m i gl eqs ob
   |.s=>aS 0 V ps hs' A c md pre t κ own old m i gl eqs ob
   |.a j=>match md with
    |none=>q8 ih j hd c' k V ps hs' A c md pre t κ own old m i gl eqs ob
    |some _=>aS 74 V ps hs A c md pre t κ own old m i gl eqs ob
   |.c j l=>sM ih j l c' hd k hs' V ps hs A c md pre t κ own old m i gl eqs ob
   |.n j=>ou ih j c' hd k hs' V ps hs A c md pre t κ own old m i gl eqs ob
   |_=>aS 20 V ps hs A c md pre t κ own old m i gl eqs ob
noncomputable def ni (ih:bZ) (a:Addr) (k:Obj→Sem PySem.Fin):bZ:=λ V ps hs A c md pre t κ own old m i gl eqs ob=>match hs with
 |[]=>aS 11 V ps hs A c md pre t κ own old m i gl eqs ob
 |h::hs'=>match h with
  |.k=>match V.K a with
   |some o=>ih V ps hs' A c md pre (k o) κ own old m i gl eqs ob
   |none=>aS 7 V ps hs A c md pre t κ own old m i gl eqs ob
  |.w j=>match own[j]? with
   |some (a',o)=>ih V ps hs' A c md pre (k o) κ own old m i gl (.v (.ref a) (.ref a')::eqs) ob
   |none=>aS 8 V ps hs A c md pre t κ own old m i gl eqs ob
  |.p j=>match V.pf[j]? with
   |some (a',o)=>ih V ps hs' A c md pre (k o) κ own old m i gl (.v (.ref a) (.ref a')::eqs) ob
   |none=>aS 9 V ps hs A c md pre t κ own old m i gl eqs ob
  |.o j=>match old[j]? with
   |some (a',o)=>ih V ps hs' A c md pre (k o) κ own old m i gl (.v (.ref a) (.ref a')::eqs) ob
   |none=>aS 9 V ps hs A c md pre t κ own old m i gl eqs ob
  |_=>aS 10 V ps hs A c md pre t κ own old m i gl eqs ob
noncomputable def Es (ih:bZ) (a:Addr) (f:Obj→Obj) (k:Unit→Sem PySem.Fin):bZ:=λ V ps hs A c md pre t κ own old m i gl eqs ob=>match hs with
 |[]=>aS 15 V ps hs A c md pre t κ own old m i gl eqs ob
 |h::hs'=>match h with
  |.w j=>match own[j]? with
   |some (a',o)=>match (f o).isFreed with
    |false=>ih V ps hs' A c md pre (k ()) κ (own.set j (a',f o)) old m i gl (.v (.ref a) (.ref a')::eqs) ob
    |true=>aS 12 V ps hs A c md pre t κ own old m i gl eqs ob
   |none=>aS 13 V ps hs A c md pre t κ own old m i gl eqs ob
  |_=>aS 14 V ps hs A c md pre t κ own old m i gl eqs ob
noncomputable def uL (ih:bZ) (g:Nat) (r:Resume) (k:GenResult→Sem PySem.Fin):bZ:=λ V ps hs A c md pre t κ own old m i gl eqs ob=>match md with
 |some _=>aS 51 V ps hs A c md pre t κ own old m i gl eqs ob
 |none=>match pre with
  |true=>aS 52 V ps hs A c md pre t κ own old m i gl eqs ob
  |false=>match gl with
   |[]=>aS 53 V ps hs A c md pre t κ own old m i gl eqs ob
   |x::l=>match l with
    |_::_=>aS 54 V ps hs A c md pre t κ own old m i gl eqs ob
    |[]=>match x with
     |.fresh c₀=>match r with
      |.send v=>match v with
       |.none=>ih V ps hs (A.under c) c₀ (some []) false (Zd c₀) (.gen A c k V.gg.1.size κ) own old m i [.running] (.v (.int g 0) (.int V.gg.1.size 0)::eqs) ob
       |_=>aS 55 V ps hs A c md pre t κ own old m i gl eqs ob
      |.throw _=>aS 56 V ps hs A c md pre t κ own old m i gl eqs ob
     |.suspended k₀ _ c₀ _ fs₀ _=>ih V ps hs (A.under c) c₀ (some fs₀) false (k₀ r) (.gen A c k V.gg.1.size κ) own old m i [.running] (.v (.int g 0) (.int V.gg.1.size 0)::eqs) ob
     |_=>aS 57 V ps hs A c md pre t κ own old m i gl eqs ob
noncomputable def rb (ih:bZ) (o:Obj) (k:Addr→Sem PySem.Fin):bZ:=λ V ps hs A c md pre t κ own old m i gl eqs ob=>match o.isFreed with
 |false=>ih V ps hs A c md pre (k (V.n+m)) κ ((V.n+m,o)::own) old (m+1) i gl eqs ob
 |true=>aS 16 V ps hs A c md pre t κ own old m i gl eqs ob
noncomputable def rJ (ih:bZ) (v:Value) (l:List Value) (k:Resume→Sem PySem.Fin) (fs:List Frame):bZ:=λ V ps hs A c md pre t κ own old m i gl eqs ob=>match splitAtGen fs with
 |some _=>aS 65 V ps hs A c md pre t κ own old m i gl eqs ob
 |none=>match fs.any Frame.guarded with
  |true=>aS 66 V ps hs A c md pre t κ own old m i gl eqs ob
  |false=>nf ih (.susp v false l k c (ps 0).p fs) V (zM ps) hs A c md pre t κ own old m i gl eqs ob
noncomputable def pK (ih:bZ):bZ:=λ V ps hs A c md pre t κ own old m i gl eqs ob=>match t with
 |.pure fin=>match fin with
  |.done f=>En ih (.ok f) V ps hs A c md pre t κ own old m i gl eqs ob
  |.again c'=>match hs with
   |[]=>aS 6 V ps hs A c md pre t κ own old m i gl eqs ob
   |h::hs'=>match h with
    |.e=>sR ih c' V ps hs' A c md pre t κ own old m i gl eqs ob
    |.s=>aS 0 V ps hs' A c md pre t κ own old m i gl eqs ob
    |.c j l=>nT ih j l c' hs' V ps hs A c md pre t κ own old m i gl eqs ob
    |.a j=>rm ih j c' V ps hs' A c md pre t κ own old m i gl eqs ob
    |_=>aS 5 V ps hs A c md pre t κ own old m i gl eqs ob
 |.raise e=>En ih (.error e) V ps hs A c md pre t κ own old m i gl eqs ob
 |.rule _ k=>ih V ps hs A c md pre (k ()) κ own old m i gl eqs ob
 |.at _ k=>ih V ps hs A c md pre (k ()) κ own old m i gl eqs ob
 |.point _ k=>ih V ps hs A c md pre (k ()) κ own old m i gl eqs ob
 |.ask k=>ih V ps hs A c md pre (k ⟨V.prog,V.w.params⟩) κ own old m i gl eqs ob
 |.load a _ k=>ni ih a k V ps hs A c md pre t κ own old m i gl eqs ob
 |.update a _ f k=>Es ih a f k V ps hs A c md pre t κ own old m i gl eqs ob
 |.alloc o k=>rb ih o k V ps hs A c md pre t κ own old m i gl eqs ob
 |.fresh k=>ih V ps hs A c md pre (k (V.t₀+i)) κ own old m (i+1) gl eqs ob
 |.handled own' k=>match own' with
  |false=>match md with
   |none=>ih V ps hs A c md pre (k (A.under c).handled) κ own old m i gl eqs ob
   |some fs=>ih V ps hs A c md pre (k (A.over c fs).handled) κ own old m i gl eqs ob
  |true=>aS 17 V ps hs A c md pre t κ own old m i gl eqs ob
 |.call c' hd g l k=>Dc ih c' hd g l k V ps hs A c md pre t κ own old m i gl eqs ob
 |.newGen c' k=>match md with
  |some _=>aS 58 V ps hs A c md pre t κ own old m i gl eqs ob
  |none=>match gl with
   |[]=>ih V ps hs A c md pre (k V.gg.1.size) κ own old m i [.fresh c'] eqs ob
   |_::_=>aS 59 V ps hs A c md pre t κ own old m i gl eqs ob
 |.genState g k=>match md with
  |some _=>aS 60 V ps hs A c md pre t κ own old m i gl eqs ob
  |none=>match gl with
   |[]=>aS 61 V ps hs A c md pre t κ own old m i gl eqs ob
   |x::l=>match l with
    |[]=>ih V ps hs A c md pre (k x.seen) κ own old m i gl (.v (.int g 0) (.int V.gg.1.size 0)::eqs) ob
    |_::_=>aS 62 V ps hs A c md pre t κ own old m i gl eqs ob
 |.resume g r _ k=>uL ih g r k V ps hs A c md pre t κ own old m i gl eqs ob
 |.yield v gd l k=>match md with
  |none=>aS 63 V ps hs A c md pre t κ own old m i gl eqs ob
  |some fs=>match gd with
   |true=>aS 64 V ps hs A c md pre t κ own old m i gl eqs ob
   |false=>rJ ih v l k fs V ps hs A c md pre t κ own old m i gl eqs ob
 |.stack k=>ih V (zM ps) hs A c md pre (k ((c,(ps 0).p)::(ps 0).l)) κ own old m i gl eqs ob
 |_=>aS 30 V ps hs A c md pre t κ own old m i gl eqs ob
noncomputable def Bn:Nat→bZ
 |0=>aS 1
 |n+1=>pK (Bn n)
end
variable {g gg:BG}{e:LE}{a:Addr}{os:OsState}{hs hs':List Hn}{κ:Kt}{eqs:List E2}{ih:bZ}{V':RV}{r:RS}{t₀:Nat}{R:RP}{gen:Value}
set_option backward.match.sparseCases false
set_option backward.match.sparseCases true
noncomputable def tS (prog:Program) (w:World) (nat:ws):Prop:=∀ j c tk v x q p,nat j c tk=some (v,x,q,p)→(∀ y∈q,y.1=y.2)→(∀ y∈p,y)→
 ∀ A (R:RP) h g d os,R (.ok (.ret v)) ⟨h,g,d,tk+x,os⟩→codeAny (model prog w) A c R ⟨h,g,d,tk,os⟩
noncomputable def Fl (M:Model) (A:Around) (c:Code) (t t':Sem α):Prop:=∀ (s:Shared) (Q:α→Shared→Prop) (E:Value→Shared→Prop),wpOwn M A c t' Q E s→wpOwn M A c t Q E s
theorem Sm.o {A:Around}{c:Code}{t t':Sem α}(h:Sm M A c t t'):Fl M A c t t':=λ _ _ _ x=>h.own x
noncomputable def yB (prog:Program) (w:World) (alt:Nat→Code→Option (Sem PySem.Fin)):Prop:=∀ j c t,alt j c=some t→∀ A:Around,(A.under c).depth < recursionLimit→(A.under c).units < cLine→Fl (model prog w) A c (denote table c) t
theorem LE.get {K:KF}{F:List Addr}(L:ag K H h F e.own e.old) (P:∀ p∈e.pf,K p.1=some p.2) {o:Obj}(q:e.at i=some (a,o)):h.get? a=some o:=by
 unfold LE.at at q
 split at q
 ·exact L.ownAt i a o q
 ·split at q
  ·exact L.oldAt _ a o q
  ·exact L.kin a o (P _ (bQ q))
noncomputable def cT (prog:Program) (w:World) (K:KF) (C:Ct):Prop:=∀ c l e r,C.f c l e=.ok r→(∀ y∈r.eqs,y.holds)→(∀ y∈r.obs,y)→∀ H F h (g:BG) d t os R,ag K H h F e.own e.old→(∀ p∈e.pf,K p.1=some p.2)→
 (∀ as h' (g':BG) t',(C.pg=true→g'=g)→ag K H h' F (r.own as) e.old→R (r.res as) ⟨h',g',d,t',os⟩)→codeAny (model prog w) C.A c R ⟨h,g,d,t,os⟩
structure RF.Ok (V:RF):Prop where
 lim:∀ h,V.K.In h→h.NoLimit
 nat:tS V.prog V.w V.nat
 alt:yB V.prog V.w V.alt
 ct:∀ C∈V.ct,cT V.prog V.w V.K C
 pf:∀ p∈V.pf,V.K p.1=some p.2
variable {K:KF}{prog:Program}{V:RV}
noncomputable def gens (V:RV) (gl:List GenState):Array GenState:=⟨V.gg.1.toList++gl⟩
theorem fz (V:RV) {gl:List GenState}(h:gl.all GenState.bare=true):∀ y∈gens V gl,y.bare=true:=λ y hy=>by
 unfold gens at hy
 rcases dm.mp (by simpa using hy:y∈V.gg.1.toList++gl) with h1|h1
 ·exact V.gg.2 y (by simpa using h1)
 ·exact List.all_eq_true.mp h y h1
noncomputable def sh (V:RV) (h:Heap) (i:Nat) (gl:List GenState):Shared:=⟨h,gens V gl,V.d,V.t₀+i,V.os⟩
noncomputable def bB (V:RV):Kt→RP
 |.base=>V.R
 |.ret A c k κ=>postR V.prog V.w A c (postC V.prog V.w A (bB V κ)) (postE (bB V κ)) k
 |.gen ..=>λ _ _=>False
noncomputable def jc (V:RV):Kt→End→Shared→Prop
 |.gen A c k g κ=>postG V.prog V.w A c (postC V.prog V.w A (bB V κ)) (postE (bB V κ)) k g
 |_=>λ _ _=>False
noncomputable def QQ (V:RV) (A:Around) (c:Code) (κ:Kt):Bool→PySem.Fin→Shared→Prop
 |false=>postC V.prog V.w A (bB V κ)
 |true=>λ fin s'=>wpOwn (model V.prog V.w) A c (enterFrame>>=λ _=>pure fin) (postC V.prog V.w A (bB V κ)) (postE (bB V κ)) s'
noncomputable def Mn (V:RV) (A:Around) (c:Code) (md:Option (List Frame)) (pre:Bool) (t:Sem PySem.Fin) (κ:Kt) (s:Shared):Prop:=match md with
 |none=>wpOwn (model V.prog V.w) A c t (QQ V A c κ pre) (postE (bB V κ)) s
 |some fs=>SegX (model V.prog V.w) A c t fs s (jc V κ)
noncomputable def Gd (V:RV) (own old:aq) (m:Nat) (h:Heap):Prop:=ag V.K V.H h V.F own old∧h.objs.size=V.n+m
noncomputable def RS.Fine (r:RS):Prop:=(∀ y∈r.eqs,y.holds)∧(∀ y∈r.ob,y)∧∀ h,Gd r.V r.own r.old r.m h→Mn r.V r.A r.c r.md r.pre r.t r.κ (sh r.V h r.i r.gl)
noncomputable def wa (V:RV) (F:Ps→RS) (A:Around) (c:Code) (md:Option (List Frame)) (pre:Bool) (t:Sem PySem.Fin) (κ:Kt) (own old:aq) (m i:Nat) (gl:List GenState) (eqs:List E2) (ob:List Prop):Prop:=
 (∀ ps,(∀ y∈eqs,y∈(F ps).eqs)∧(∀ y∈ob,y∈(F ps).ob))∧((∀ ps,(F ps).Fine)→∀ h,Gd V own old m h→Mn V A c md pre t κ (sh V h i gl))
noncomputable def cQ (V:RV) (f:bZ) (hs:List Hn) (A:Around) (c:Code) (md:Option (List Frame)) (pre:Bool) (t:Sem PySem.Fin) (κ:Kt) (own old:aq) (m i:Nat) (gl:List GenState) (eqs:List E2) (ob:List Prop):Prop:=
 (∀ ps,(∀ y∈eqs,y∈(f V ps hs A c md pre t κ own old m i gl eqs ob).eqs)∧(∀ y∈ob,y∈(f V ps hs A c md pre t κ own old m i gl eqs ob).ob))∧
 ((∀ ps,(f V ps hs A c md pre t κ own old m i gl eqs ob).Fine)→∀ h,Gd V own old m h→Mn V A c md pre t κ (sh V h i gl))
theorem qT {f:bZ}{A:Around}{c:Code}{md:Option (List Frame)}{pre:Bool}{own:aq}{gl:List GenState}(h:wa V (λ ps=>f V ps hs A c md pre t κ own old m i gl eqs ob) A c md pre t κ own old m i gl eqs ob):cQ V f hs A c md pre t κ own old m i gl eqs ob:=h
noncomputable def A6 (f:bZ):Prop:=∀ V:RV,V.toRF.Ok→∀ hs A c md pre t κ own old m i gl eqs ob,cQ V f hs A c md pre t κ own old m i gl eqs ob
section
variable (O:V.toRF.Ok)
theorem mF (b:Nat):A6 (aS b):=λ V O hs A c md pre t κ own old m i gl eqs ob=>⟨λ ps=>⟨λ _ h=>h,λ _ h=>h⟩,λ H h g=>(H λ _=>qV).2.2 h g⟩
variable {A:Around}{c:Code}{md:Option (List Frame)}{pre:Bool}{own:aq}{gl:List GenState}
theorem ai (b:Nat):cQ V (aS b) hs A c md pre t κ own old m i gl eqs ob:=⟨λ ps=>⟨λ _ h=>h,λ _ h=>h⟩,λ H h g=>(H λ _=>qV).2.2 h g⟩
include O in
theorem iE {F:Ps→RS}{g:bZ}{hs' A' c' md' pre' t' κ' own' m' i' gl'}(G:A6 g)
  (e:∀ ps,F ps=g V ps hs' A' c' md' pre' t' κ' own' old m' i' gl' eqs ob)
  (x:∀ h,Gd V own old m h→(∀ h',Gd V own' old m' h'→Mn V A' c' md' pre' t' κ' (sh V h' i' gl'))→Mn V A c md pre t κ (sh V h i gl)):wa V F A c md pre t κ own old m i gl eqs ob:=by
 refine ⟨λ ps=>?_,λ H h g=>x h g ((G V O hs' A' c' md' pre' t' κ' own' old m' i' gl' eqs ob).2 λ ps=>e ps▸H ps)⟩
 rw [e ps];exact (G V O hs' A' c' md' pre' t' κ' own' old m' i' gl' eqs ob).1 ps
include O in
theorem jC {f g:bZ}{hs' A' c' md' pre' t' κ' own' m' i' gl'}(G:A6 g)
 (e:∀ ps,f V ps hs A c md pre t κ own old m i gl eqs ob=g V ps hs' A' c' md' pre' t' κ' own' old m' i' gl' eqs ob)
 (x:∀ h,Gd V own old m h→(∀ h',Gd V own' old m' h'→Mn V A' c' md' pre' t' κ' (sh V h' i' gl'))→Mn V A c md pre t κ (sh V h i gl)):cQ V f hs A c md pre t κ own old m i gl eqs ob:=iE O G e x
include O in
theorem mA {F:Ps→RS}{g:bZ}{hs' A' c' md' pre' t' κ' own' m' i' gl'}{a b:Value}(G:A6 g)
  (e:∀ ps,F ps=g V ps hs' A' c' md' pre' t' κ' own' old m' i' gl' (.v a b::eqs) ob)
  (x:a=b→∀ h,Gd V own old m h→(∀ h',Gd V own' old m' h'→Mn V A' c' md' pre' t' κ' (sh V h' i' gl'))→Mn V A c md pre t κ (sh V h i gl)):wa V F A c md pre t κ own old m i gl eqs ob:=by
 have G1:=(G V O hs' A' c' md' pre' t' κ' own' old m' i' gl' (.v a b::eqs) ob).1
 refine ⟨λ ps=>?_,λ H h g=>x ?_ h g ((G V O hs' A' c' md' pre' t' κ' own' old m' i' gl' (.v a b::eqs) ob).2 λ ps=>e ps▸H ps)⟩
 ·rw [e ps];exact ⟨λ y hy=>(G1 ps).1 y (.tail _ hy),(G1 ps).2⟩
 ·have:=(H λ _=>qV).1
  rw [e] at this
  exact this _ ((G1 λ _=>qV).1 _ (.head _))
include O in
theorem uO {f g:bZ}{hs' A' c' md' pre' t' κ' own' m' i' gl'}{a b:Value}(G:A6 g)
 (e:∀ ps,f V ps hs A c md pre t κ own old m i gl eqs ob=g V ps hs' A' c' md' pre' t' κ' own' old m' i' gl' (.v a b::eqs) ob)
 (x:a=b→∀ h,Gd V own old m h→(∀ h',Gd V own' old m' h'→Mn V A' c' md' pre' t' κ' (sh V h' i' gl'))→Mn V A c md pre t κ (sh V h i gl)):cQ V f hs A c md pre t κ own old m i gl eqs ob:=mA O G e x
end
section
variable {A:Around}{c:Code}{md:Option (List Frame)}{pre:Bool}{own:aq}{gl:List GenState}
theorem yW {A:Around}{c:Code}{fs:List Frame}{P:End→Shared→Prop}{g:Bool}{s:Shared}(hnb:hd≠some byPass)
  (x:codeAny (model prog w) ((A.over c fs).mark hd) c' (λ r s'=>SegX (model prog w) A c (k r) fs s' P) s):SegX (model prog w) A c (.call c' hd g l k) fs s P:=by
 have e:Sem.call c' hd g l k=(Sem.call c' hd g l (λ r=>Sem.pure r):Sem Result).wrap k .raise id id:=by simp only [Sem.wrap,id]
 rw [e]
 exact s_cmd prog w A c fs P (m:=Sem.call c' hd g l (λ r=>Sem.pure r)) (k:=k) (x_call (codeAny_mono x λ r s' h=>aA h) hnb)
theorem CU {γ:Type}{m:Sem α}{f:α→Sem γ}{g:α→Sem β}{F:β→Sem γ}(h:∀ a,f a=g a>>=F):m>>=f=(m>>=g)>>=F:=by
 rw [bind_assoc];exact congrArg _ (funext h)
theorem qt {f:Str→Sem PySem.Fin}(c:Value):(do f (←match c with|.none=>pure q|c=>do match←field c 1 with|.str s _=>pure s|_=>pure q))=iC q f c:=by
 have z:∀ x:Value,(match x with|.str s _=>pure s>>=f|_=>pure q>>=f)=f (yZ q x):=λ x=>by induction x<;>exact pure_bind _ _
 induction c<;>first|exact pure_bind _ _|exact congrArg (λ k=>field _ 1>>=k) (funext z)
theorem mX {J:Str→Sem PySem.Fin}{F:PySem.Fin→Sem PySem.Fin}(c:Value):iC q J c>>=F=iC q (λ nm=>J nm>>=F) c:=by
 induction c<;>first|exact bind_assoc _ _ _|rfl
theorem kK (self:Addr) (fd:FuncData) (args:Args) (hg:fd.scope.isGenerator=false) (hc:fd.scope.isCoroutine=false):
  callFunction self fd args=(gX self fd args)>>=λ fin=>enterFrame>>=λ _=>pure fin:=by
 unfold callFunction gX
 rw [PySem.W.ZFast.ze9782568553167038054,PySem.W.ZFast.ze11113344188204177931,mX]
 simp only [hg,hc]
 refine Eq.trans (qt fd.code) (congrArg (λ f=>iC fd.qualname f fd.code) (funext λ nm=>?_))
 refine CU λ b=>CU λ env=>?_
 generalize fd.body=bb
 induction bb<;>rfl
theorem j9 {A:Around}{c:Code}{f:Addr}{o:Obj}{Q:PySem.Fin→Shared→Prop}{s:Shared}(ho:s.heap.get? f=some o) (hd:o.data=.func fd)
  (hg:(fd.scope.isGenerator||fd.scope.isCoroutine)=false) (x:wpOwn (model prog w) A c (gX f fd args) (λ fin s'=>wpOwn (model prog w) A c (enterFrame>>=λ _=>pure fin) Q E s') E s):
  wpOwn (model prog w) A c (denote table (.call (.ref f) args)) Q E s:=by
 obtain ⟨g1,g2⟩:=Bool.or_eq_false_iff.mp hg
 show wpOwn (model prog w) A c (callAny (.ref f) args) Q E s
 unfold callAny
 refine bG (eY (wpAny_load ho ?_))
 rw [hd]
 show wpOwn (model prog w) A c (callFunction f fd args) Q E s
 rw [kK f fd args g1 g2]
 exact bG x
end
set_option backward.match.sparseCases false
section
variable (O:V.toRF.Ok) (IH:A6 ih)
variable {A:Around}{c:Code}{md:Option (List Frame)}{pre:Bool}{own:aq}{gl:List GenState}
theorem k7 {a b:Nat}(h:(Value.int a 0)=(Value.int b 0)):a=b:=by
 injection h with h1 _
 exact Int.ofNat.inj h1
theorem oF (V:RV) (x y:GenState) (h:Heap) (i:Nat):(sh V h i [x]).setGen V.gg.1.size y=sh V h i [y]:=by
 unfold sh Shared.setGen gens
 have:(⟨V.gg.1.toList++[x]⟩:Array GenState).setIfInBounds V.gg.1.size y=⟨V.gg.1.toList++[y]⟩:=by
  apply Array.ext'
  simp
 rw [this]
theorem oK (V:RV) (x:GenState) (h:Heap) (i:Nat):(sh V h i [x]).gens[V.gg.1.size]?=some x:=by
 unfold sh gens
 simp
include O IH
theorem C7 (e:End):(∀ ps,(∀ y∈eqs,y∈(nf ih e V ps hs A c md pre t κ own old m i gl eqs ob).eqs)∧(∀ y∈ob,y∈(nf ih e V ps hs A c md pre t κ own old m i gl eqs ob).ob))∧
  (md.isSome=true→(∀ ps,(nf ih e V ps hs A c md pre t κ own old m i gl eqs ob).Fine)→(∀ h,Gd V own old m h→jc V κ e (sh V h i gl))∨(∀ h,Gd V own old m h→Mn V A c md pre t κ (sh V h i gl))):=by
 cases κ with
 |base=>exact ⟨λ ps=>⟨λ _ h=>h,λ _ h=>h⟩,λ _ H=>.inr λ h G=>(H λ _=>qV).2.2 h G⟩
 |ret=>exact ⟨λ ps=>⟨λ _ h=>h,λ _ h=>h⟩,λ _ H=>.inr λ h G=>(H λ _=>qV).2.2 h G⟩
 |gen A' c' k g κ'=>
  match gl with
  |[]=>exact ⟨λ ps=>⟨λ _ h=>h,λ _ h=>h⟩,λ _ H=>.inr λ h G=>(H λ _=>qV).2.2 h G⟩
  |x::y::l=>exact ⟨λ ps=>⟨λ _ h=>h,λ _ h=>h⟩,λ _ H=>.inr λ h G=>(H λ _=>qV).2.2 h G⟩
  |[x]=>
   have z:=uO (V:=V) O (f:=nf ih e) (g:=ih) (hs:=hs) (A:=A) (c:=c) (md:=md) (pre:=pre) (t:=t) (κ:=.gen A' c' k g κ') (own:=own) (old:=old) (m:=m) (i:=i) (gl:=[x]) (eqs:=eqs) (ob:=ob)
    (hs':=hs) (A':=A') (c':=c') (md':=none) (pre':=false) (t':=k e.result) (κ':=κ') (own':=own) (m':=m) (i':=i) (gl':=[e.genState]) (a:=.int g 0) (b:=.int V.gg.1.size 0) IH (λ ps=>rfl)
   refine ⟨λ ps=>?_,λ hm H=>.inl λ h G=>?_⟩
   ·have:=(IH V O hs A' c' none false (k e.result) κ' own old m i [e.genState] (.v (.int g 0) (.int V.gg.1.size 0)::eqs) ob).1 ps
    exact ⟨λ y hy=>this.1 y (.tail _ hy),this.2⟩
   ·have q:=(IH V O hs A' c' none false (k e.result) κ' own old m i [e.genState] (.v (.int g 0) (.int V.gg.1.size 0)::eqs) ob)
    have e1:g=V.gg.1.size:=k7 ((H λ _=>qV).1 _ ((q.1 λ _=>qV).1 _ (.head _)))
    have q2:=q.2 H h G
    show postG _ _ _ _ _ _ _ _ _ _
    unfold postG
    rw [e1,oF]
    exact q2
theorem uM (r:Result) (ht:t=leafOf r):cQ V (En ih r) hs A c md pre t κ own old m i gl eqs ob:=by
 induction md with
 |none=>
  induction pre with
  |true=>exact ai (hs:=hs) 43
  |false=>
   induction κ with
   |base=>exact ai (hs:=hs) 0
   |gen=>exact ai (hs:=hs) 0
   |ret A' c' k κ'=>
    refine jC (V:=V) O (g:=ih) (hs':=hs) (A':=A') (c':=c') (md':=none) (pre':=false) (t':=k r) (κ':=κ') (own':=own) (m':=m) (i':=i) (gl':=gl) IH (λ ps=>rfl) λ h G x=>?_
    have z:=x h G
    subst ht
    induction r with
    |ok f=>
     refine y_pure _ _ _ _ _ _ _ _ _ ?_
     show bB V (.ret A' c' k κ') (.ok f) _
     exact z
    |error e=>
     refine y_raise _ _ _ _ _ _ _ _ _ ?_
     show bB V (.ret A' c' k κ') (.error e) _
     exact z
 |some fs=>
  match fs with
  |[]=>
   have z:=C7 (V:=V) (ih:=ih) O IH (hs:=hs) (A:=A) (c:=c) (md:=some []) (pre:=pre) (t:=t) (κ:=κ) (own:=own) (old:=old) (m:=m) (i:=i) (gl:=gl) (eqs:=eqs) (ob:=ob) (.ret r)
   refine ⟨z.1,λ H h G=>?_⟩
   rcases z.2 rfl H with q|q
   ·exact s_end _ _ _ _ _ _ r t ht (q h G)
   ·exact q h G
  |.ret k hd g l c₁ p₁ kp::fs'=>
   exact jC (V:=V) O (g:=ih) (hs':=hs) (A':=A) (c':=c₁) (md':=some fs') (pre':=false) (t':=k r) (κ':=κ) (own':=own) (m':=m) (i':=i) (gl':=gl) IH (λ ps=>rfl) λ h G x=>s_pop _ _ _ _ _ _ _ r t ht k hd g l c₁ p₁ kp (x h G)
  |.gen ..::fs'=>exact ai (hs:=hs) 44
end
section
variable (O:V.toRF.Ok) (IH:A6 ih)
variable {A:Around}{c:Code}{md:Option (List Frame)}{pre:Bool}{own:aq}{gl:List GenState}
theorem FZ (b:Bool):(if b then 1 else 0:Nat)+0+0+0≤2:=by cases b<;>decide
theorem FE (b:Bool):3 * (if b then 1 else 0:Nat)≤4:=by cases b<;>decide
theorem lm {c:Code}(h:dh c=true):c.weight≤2∧c.cUnits≤4:=by
 cases c
 case builtin id args=>
  unfold dh at h
  dsimp only at h
  split at h
  ·rename_i h1;exact ⟨bp h1,bp h⟩
  ·cases h
 all_goals first
  |exact ⟨bp rfl,bp rfl⟩
  |exact ⟨FZ (Code.isFrame _),FE (Code.isFrame _)⟩
  |exact ⟨FZ (Code.isFrame _),bp rfl⟩
theorem jt {A:Around}{c:Code}(h:dh c=true):Ar ((A.under c).mark hd) (Aj A hd):=by
 obtain ⟨h1,h2⟩:=lm h
 refine ⟨?_,?_,.inl rfl,.inl rfl,?_⟩
 ·induction hd<;>rfl
 ·show A.depth+c.weight≤A.depth+2;lia
 ·show A.units+c.cUnits≤A.units+4;lia
theorem qh {A:Around}{c:Code}(h:(dh c&&Nat.blt (A.depth+2) recursionLimit)=true):(A.under c).depth < recursionLimit:=by
 obtain ⟨h1,h2⟩:=Bool.and_eq_true_iff.mp h
 have:=(lm h1).1
 have h3:A.depth+2 < recursionLimit:=bp h2
 show A.depth+c.weight < recursionLimit
 lia
theorem dI (q:okMark hd=true):hd≠some byPass:=by
 intro e;subst e;simp [okMark] at q
include O IH
theorem nD {g:Bool}(q:okMark hd=true) (hl:dh c=true):wa V (λ ps=>ih V ps hs (Aj A hd) c' none false (Zd c') (.ret A c k κ) own old m i gl eqs ob) A c none false (.call c' hd g l k) κ own old m i gl eqs ob:=by
 refine iE O IH (λ ps=>rfl) λ h G x=>?_
 have z:=x h G
 refine y_call _ _ _ _ _ _ _ _ _ _ _ _ _ (dI q) (aM (jt hl) (y_code _ _ _ _ _ _ ?_))
 rw [l8];exact z
theorem wb (hd:Option Value) (c':Code) (g:Bool) (l:List Value) (k:Result→Sem PySem.Fin) (ht:t=.call c' hd g l k) (hm:md=none) (hp:pre=false):cQ V (sy ih hd c' k) hs A c md pre t κ own old m i gl eqs ob:=by
 subst ht hm hp
 refine qT ?_
 dsimp only [sy]
 generalize q:okMark hd=b
 generalize hl:dh c=b2
 induction b with
 |false=>exact ai (hs:=hs) 45
 |true=>induction b2 with
  |false=>exact ai (hs:=hs) 88
  |true=>
   have gen:=λ c'=>nD O IH (hs:=hs) (A:=A) (κ:=κ) (own:=own) (old:=old) (m:=m) (i:=i) (gl:=gl) (eqs:=eqs) (ob:=ob) (c':=c') (g:=g) (l:=l) (k:=k) q hl
   cases c' with
   |call f args=>
    induction f with
    |ref f=>
     dsimp only
     generalize hK:V.K f=oo
     induction oo with
     |none=>exact gen _
     |some o=>
      dsimp only
      generalize hd':o.data=dd
      cases dd with
      |func fd=>
       dsimp only
       generalize hg:(fd.scope.isGenerator||fd.scope.isCoroutine)=b3
       induction b3 with
       |true=>exact ai (hs:=hs) 46
       |false=>
        refine iE O IH (λ ps=>rfl) λ h G x=>?_
        have z:=x h G
        refine y_call _ _ _ _ _ _ _ _ _ _ _ _ _ (dI q) (aM (jt hl) (y_code _ _ _ _ _ _ ?_))
        exact j9 (G.1.kin f o hK) hd' hg z
      |_=>exact gen _
    |_=>exact gen _
   |_=>exact gen _
theorem rq (hd:Option Value) (c':Code) (g:Bool) (l:List Value) (k:Result→Sem PySem.Fin) (ht:t=.call c' hd g l k) (hm:md=none) (hp:pre=false):cQ V (rY ih hd c' k) hs A c md pre t κ own old m i gl eqs ob:=by
 subst ht hm hp
 refine qT ?_
 dsimp only [rY]
 generalize q:okMark hd=b
 generalize hl:dh c=b2
 induction b with
 |false=>exact ai (hs:=hs) 45
 |true=>induction b2 with
  |false=>exact ai (hs:=hs) 88
  |true=>exact nD O IH q hl
theorem sT (j:Nat) (hd:Option Value) (c':Code) (g:Bool) (l:List Value) (k:Result→Sem PySem.Fin) (ht:t=.call c' hd g l k) (hm:md=none) (hp:pre=false):cQ V (q8 ih j hd c' k) hs A c md pre t κ own old m i gl eqs ob:=by
 subst ht hm hp
 refine qT ?_
 dsimp only [q8]
 generalize q:okMark hd=b
 generalize hl:dh c=b2
 generalize hl':dh c'=b3
 generalize hb:(Nat.blt (A.depth+4) recursionLimit&&Nat.blt (A.units+8) 9900)=b4
 generalize ha:V.alt j c'=oo
 induction b with
 |false=>exact ai (hs:=hs) 45
 |true=>induction b2 with
  |false=>exact ai (hs:=hs) 88
  |true=>induction b3 with
   |false=>exact ai (hs:=hs) 88
   |true=>induction b4 with
    |false=>exact ai (hs:=hs) 72
    |true=>induction oo with
     |none=>exact ai (hs:=hs) 73
     |some t'=>
      refine iE O IH (λ ps=>rfl) λ h G x=>?_
      have z:=x h G
      refine y_call _ _ _ _ _ _ _ _ _ _ _ _ _ (dI q) (aM (jt hl) (y_code _ _ _ _ _ _ ?_))
      obtain ⟨h3,h4⟩:=Bool.and_eq_true_iff.mp hb
      obtain ⟨h5,h6⟩:=lm hl'
      exact O.alt _ _ _ ha _ (Nat.lt_of_le_of_lt (Nat.add_le_add_left h5 (A.depth+2)) (bp h3))
       (Nat.lt_of_lt_of_le (Nat.lt_of_le_of_lt (Nat.add_le_add_left h6 (A.units+4)) (bp h4)) (by decide)) _ _ _ z
omit O IH in
theorem nN (O:V.toRF.Ok) (q:c'.quiet=true) (hb:pre=true→(dh c&&Nat.blt (A.depth+2) recursionLimit)=true) (G:Gd V own old m h) (z:wpOwn (model V.prog V.w) A c' (denote table c') (postC V.prog V.w A (bB V κ)) (postE (bB V κ)) (sh V h i gl)):Mn V A c none pre (.pure (.again c')) κ (sh V h i gl):=by
 refine y_pure _ _ _ _ _ _ _ _ _ ?_
 induction pre with
 |false=>exact y_again _ _ _ _ _ _ q (y_code _ _ _ _ _ _ z)
 |true=>
  show wpOwn _ _ _ (enterFrame>>=λ _=>pure (PySem.Fin.again c')) _ _ _
  exact bG (eY (wpAny_enterFrame (O.lim _ G.1.kin) (qh (hb rfl)) (y_pure _ _ _ _ _ _ _ _ _ (y_again _ _ _ _ _ _ q (y_code _ _ _ _ _ _ z)))))
theorem rW (j:Nat) (c':Code) (ht:t=.pure (.again c')):cQ V (rm ih j c') hs A c md pre t κ own old m i gl eqs ob:=by
 subst ht
 refine qT ?_
 dsimp only [rm]
 generalize q:c'.quiet=b
 generalize hb:(dh c&&Nat.blt (A.depth+2) recursionLimit)=b2
 generalize hc:(dh c'&&Nat.blt (A.depth+2) recursionLimit&&Nat.blt (A.units+4) 9900)=b3
 generalize ha:V.alt j c'=oo
 induction b with
 |false=>exact ai (hs:=hs) 47
 |true=>induction md with
  |some fs=>exact ai (hs:=hs) 75
  |none=>induction b2 with
   |false=>exact ai (hs:=hs) 48
   |true=>induction b3 with
    |false=>exact ai (hs:=hs) 76
    |true=>induction oo with
     |none=>exact ai (hs:=hs) 77
     |some t'=>
      refine iE O IH (λ ps=>rfl) λ h G x=>?_
      obtain ⟨h3,h4⟩:=Bool.and_eq_true_iff.mp hc
      obtain ⟨h5,h6⟩:=lm (Bool.and_eq_true_iff.mp h3).1
      exact nN O q (λ _=>hb) G (O.alt _ _ _ ha A (qh h3)
       (Nat.lt_of_lt_of_le (Nat.lt_of_le_of_lt (Nat.add_le_add_left h6 A.units) (bp h4)) (by decide)) _ _ _ (x h G))
theorem wT (c':Code) (ht:t=.pure (.again c')):cQ V (sR ih c') hs A c md pre t κ own old m i gl eqs ob:=by
 subst ht
 refine qT ?_
 dsimp only [sR]
 generalize q:c'.quiet=b
 generalize hb:(dh c&&Nat.blt (A.depth+2) recursionLimit)=b2
 have go:(pre=true→b2=true)→c'.quiet=true→wa V (λ ps=>ih V ps hs A c' md false (Zd c') κ own old m i gl eqs ob) A c md pre (.pure (.again c')) κ own old m i gl eqs ob:=λ hp q=>by
  refine iE O IH (λ ps=>rfl) λ h G x=>?_
  have z:=x h G
  induction md with
  |none=>exact nN O q (λ e=>hb.trans (hp e)) G (by rw [l8];exact z)
  |some fs=>
   refine s_again _ _ _ _ _ _ _ _ q ?_
   rw [l8];exact z
 induction b with
 |false=>exact ai (hs:=hs) 47
 |true=>induction pre with
  |false=>exact go (λ e=>nomatch e) q
  |true=>induction b2 with
   |false=>exact ai (hs:=hs) 48
   |true=>exact go (λ _=>rfl) q
theorem yp (a:Addr) (p:Option Value) (k:Obj→Sem PySem.Fin) (ht:t=.load a p k):cQ V (ni ih a k) hs A c md pre t κ own old m i gl eqs ob:=by
 subst ht
 have go:∀ {o:Obj}{h:Heap},h.get? a=some o→Mn V A c md pre (k o) κ (sh V h i gl)→Mn V A c md pre (.load a p k) κ (sh V h i gl):=λ ho z=>by
  induction md with
  |none=>exact y_load _ _ _ _ _ _ _ _ _ _ _ _ _ _ _ _ ho z
  |some fs=>exact s_load _ _ _ _ _ _ _ _ _ _ _ _ _ _ _ ho z
 match hs with
 |[]=>exact ai (hs:=[]) 11
 |.k::hs'=>
  refine qT ?_
  dsimp only [ni]
  generalize hK:V.K a=y
  induction y with
  |none=>exact ai (hs:=.k::hs') 7
  |some o=>exact iE O IH (λ ps=>rfl) λ h G x=>go (G.1.kin a o hK) (x h G)
 |.w j::hs'=>
  refine qT ?_
  dsimp only [ni]
  generalize hj:own[j]?=y
  induction y with
  |none=>exact ai (hs:=.w j::hs') 8
  |some y=>exact mA O (a:=.ref a) (b:=.ref y.1) IH (λ ps=>rfl) λ e h G x=>go (bz e▸G.1.ownAt j y.1 y.2 hj) (x h G)
 |.o j::hs'=>
  refine qT ?_
  dsimp only [ni]
  generalize hj:old[j]?=y
  induction y with
  |none=>exact ai (hs:=.o j::hs') 9
  |some y=>exact mA O (a:=.ref a) (b:=.ref y.1) IH (λ ps=>rfl) λ e h G x=>go (bz e▸G.1.oldAt j y.1 y.2 hj) (x h G)
 |.e::hs'=>exact ai (hs:=.e::hs') 10
 |.f::hs'=>exact ai (hs:=.f::hs') 10
 |.s::hs'=>exact ai (hs:=.s::hs') 10
 |.n j::hs'=>exact ai (hs:=.n j::hs') 10
 |.a j::hs'=>exact ai (hs:=.a j::hs') 10
 |.c j l::hs'=>exact ai (hs:=.c j l::hs') 10
 |.p j::hs'=>
  refine qT ?_
  dsimp only [ni]
  generalize hj:V.pf[j]?=y
  induction y with
  |none=>exact ai (hs:=.p j::hs') 9
  |some y=>exact mA O (a:=.ref a) (b:=.ref y.1) IH (λ ps=>rfl) λ e h G x=>go (bz e▸G.1.kin _ _ (O.pf _ (bQ hj))) (x h G)
theorem Bj (a:Addr) (p:Option Value) (f:Obj→Obj) (k:Unit→Sem PySem.Fin) (ht:t=.update a p f k):cQ V (Es ih a f k) hs A c md pre t κ own old m i gl eqs ob:=by
 subst ht
 match hs with
 |[]=>exact ai (hs:=[]) 15
 |.w j::hs'=>
  refine qT ?_
  dsimp only [Es]
  generalize hj:own[j]?=y
  induction y with
  |none=>exact ai (hs:=.w j::hs') 13
  |some y=>
   obtain ⟨a',o⟩:=y
   dsimp only
   generalize hf:(f o).isFreed=b
   induction b with
   |true=>exact ai (hs:=.w j::hs') 12
   |false=>
    refine mA O (a:=.ref a) (b:=.ref a') IH (λ ps=>rfl) λ e h G x=>?_
    have e':=bz e
    subst e'
    have G':Gd V (own.set j (a,f o)) old m (h.update a f):=⟨G.1.update hj rfl hf,by rw [(Heap.SameBut.update (a:=a) (h:=h) (f:=f)).1];exact G.2⟩
    have z:=x _ G'
    have q:h.get? a=some o:=G.1.ownAt j a o hj
    induction md with
    |none=>exact bG (m:=updatePart a p f) (f:=k) (eY (wpAny_updatePart q z))
    |some fs=>exact s_cmd _ _ _ _ _ _ (m:=updatePart a p f) (k:=k) (wpAny_updatePart q z)
 |.k::hs'=>exact ai (hs:=.k::hs') 14
 |.o j::hs'=>exact ai (hs:=.o j::hs') 14
 |.e::hs'=>exact ai (hs:=.e::hs') 14
 |.f::hs'=>exact ai (hs:=.f::hs') 14
 |.s::hs'=>exact ai (hs:=.s::hs') 14
 |.n j::hs'=>exact ai (hs:=.n j::hs') 14
 |.a j::hs'=>exact ai (hs:=.a j::hs') 14
 |.c j l::hs'=>exact ai (hs:=.c j l::hs') 14
 |.p j::hs'=>exact ai (hs:=.p j::hs') 14
end
theorem dJ (h1:V'.prog=V.prog) (h2:V'.w=V.w) (h3:V'.R=V.R):∀ κ,bB V' κ=bB V κ
 |.base=>h3
 |.ret A c k κ=>by simp only [bB,dJ h1 h2 h3 κ,h1,h2]
 |.gen ..=>rfl
theorem nW (hp:V'.prog=V.prog) (hw:V'.w=V.w) (hR:V'.R=V.R) (κ:Kt):jc V' κ=jc V κ:=by
 induction κ with
 |gen A c k g κ=>
  show postG V'.prog V'.w A c (postC V'.prog V'.w A (bB V' κ)) (postE (bB V' κ)) k g=postG V.prog V.w A c (postC V.prog V.w A (bB V κ)) (postE (bB V κ)) k g
  rw [dJ hp hw hR κ,hp,hw]
 |_=>rfl
theorem p8 {n tk:Nat}{A:Around}{c:Code}{md:Option (List Frame)}{pre:Bool}:Mn (V2 V n tk g) A c md pre t κ=Mn V A c md pre t κ:=by
 funext s
 have e1:=dJ (V:=V) (V':=V2 V n tk g) rfl rfl rfl κ
 have e2:=nW (V:=V) (V':=V2 V n tk g) rfl rfl rfl κ
 induction md with
 |none=>
  show wpOwn (model V.prog V.w) A c t (QQ (V2 V n tk g) A c κ pre) (postE (bB (V2 V n tk g) κ)) s=wpOwn (model V.prog V.w) A c t (QQ V A c κ pre) (postE (bB V κ)) s
  have e3:QQ (V2 V n tk g) A c κ pre=QQ V A c κ pre:=by
   induction pre with
   |false=>show postC V.prog V.w A (bB (V2 V n tk g) κ)=postC V.prog V.w A (bB V κ);rw [e1]
   |true=>
    show (λ fin s'=>wpOwn (model V.prog V.w) A c (enterFrame>>=λ _=>pure fin) (postC V.prog V.w A (bB (V2 V n tk g) κ)) (postE (bB (V2 V n tk g) κ)) s')=(λ fin s'=>wpOwn (model V.prog V.w) A c (enterFrame>>=λ _=>pure fin) (postC V.prog V.w A (bB V κ)) (postE (bB V κ)) s')
    rw [e1]
  rw [e1,e3]
 |some fs=>
  show SegX (model V.prog V.w) A c t fs s (jc (V2 V n tk g) κ)=SegX (model V.prog V.w) A c t fs s (jc V κ)
  rw [e2]
theorem dy (V:RV):gens V []=V.gg.1:=by unfold gens;simp
section
variable (O:V.toRF.Ok) (IH:A6 ih)
variable {A:Around}{c:Code}{md:Option (List Frame)}{pre:Bool}{own:aq}{gl:List GenState}
noncomputable def yw (p:PE) (ps:Ps):Ps|0=>p|n+1=>ps n
noncomputable def C8 (p:Pos) (ps:Ps):Ps:=yw ⟨p,[],0,0,BG.nil,id⟩ ps
noncomputable def GN (p:Pos×List (Code×Pos)) (ps:Ps):Ps:=yw ⟨p.1,p.2,0,0,BG.nil,id⟩ ps
include O IH
theorem ud {A':Around}{l:List Nat}{C:Ct}{r:Ag}(CO:cT V.prog V.w V.K C) (ar:Ar A' C.A) (hr:C.f c' l ⟨own,old,V.pf⟩=.ok r)
  (E:∀ s,codeAny (model V.prog V.w) A' c' (λ r s'=>Mn V A c md pre (k r) κ s') s→Mn V A c md pre t κ s) (hb:gl.all GenState.bare=true) (gof:PE→BG) (gl':List GenState) (hg:∀ n t' (g':BG) as,(C.pg=true→g'=⟨gens V gl,fz V hb⟩)→gens (V2 V n t' (gof ⟨default,[],n,t',g',as⟩)) gl'=g'.1):
  wa V (λ ps=>ih (V2 V (ps 0).n (ps 0).t (gof (ps 0))) (zM ps) hs A c md pre (k (r.res (ps 0).as)) κ (r.own (ps 0).as) old 0 0 gl' (r.eqs++eqs) (r.obs++ob)) A c md pre t κ own old m i gl eqs ob:=by
 have G1:=λ (pe:PE)=>IH (V2 V pe.n pe.t (gof pe)) O hs A c md pre (k (r.res pe.as)) κ (r.own pe.as) old 0 0 gl' (r.eqs++eqs) (r.obs++ob)
 refine ⟨λ ps=>⟨λ y hy=>((G1 (ps 0)).1 (zM ps)).1 y (bu _ hy),λ y hy=>((G1 (ps 0)).1 (zM ps)).2 y (bu _ hy)⟩,λ H h G=>?_⟩
 have F:=H λ _=>qV
 have hq:∀ y∈r.eqs,y.holds:=λ y hy=>F.1 y (((G1 qV).1 _).1 y (aI _ hy))
 have hpp:∀ y∈r.obs,y:=λ y hy=>F.2.1 y (((G1 qV).1 _).2 y (aI _ hy))
 refine E _ (aM ar ?_)
 refine CO c' l _ r hr hq hpp V.H V.F h ⟨gens V gl,fz V hb⟩ _ _ _ _ G.1 O.pf λ as h' g' t' hpg L'=>?_
 have z:=(G1 ⟨default,[],h'.objs.size,t',g',as⟩).2 (λ ps=>H (yw ⟨default,[],h'.objs.size,t',g',as⟩ ps)) h' ⟨L',rfl⟩
 rw [p8] at z
 unfold sh at z
 rw [hg h'.objs.size t' g' as hpg] at z
 exact z
theorem rR (j:Nat) (l:List Nat) (c':Code) (A':Around) (k:Result→Sem PySem.Fin)
  (E:∀ s,codeAny (model V.prog V.w) A' c' (λ r s'=>Mn V A c md pre (k r) κ s') s→Mn V A c md pre t κ s):cQ V (GI ih j l c' A' k) hs A c md pre t κ own old m i gl eqs ob:=by
 refine qT ?_
 dsimp only [GI]
 generalize hC:V.ct[j]?=oC
 induction oC with
 |none=>exact ai (hs:=hs) 80
 |some C=>
  dsimp only
  generalize hA:kO A' C.A=b1
  generalize hh:A'.handled=oh
  generalize hr:C.f c' l ⟨own,old,V.pf⟩=rr
  generalize hp:C.pg=b2
  generalize hb:gl.all GenState.bare=b3
  induction b1 with
  |false=>exact ai (hs:=hs) 81
  |true=>induction oh with
   |some _=>exact ai (hs:=hs) 82
   |none=>induction rr with
    |need a=>exact ai (hs:=hs) 83
    |no=>exact ai (hs:=hs) 84
    |ok r=>
     have ar:Ar A' C.A:=by
      unfold kO at hA
      split at hA
      ·rename_i e
       exact ⟨hh,bp e,.inl rfl,.inl rfl,bp hA⟩
      ·exact nomatch hA
     have CO:=O.ct C (bQ hC)
     induction b2 with
     |true=>induction b3 with
      |false=>exact ai (hs:=hs) 89
      |true=>exact ud O IH CO ar hr E hb (λ _=>V.gg) gl (λ n t' g' as q=>by rw [q hp];rfl)
     |false=>
      cases gl with
      |cons x l=>exact ai (hs:=hs) 85
      |nil=>exact ud O IH CO ar hr E rfl (λ pe=>pe.g) [] (λ n t' g' as q=>dy _)
theorem qO {g:Bool}(ht:t=.call c' hd g l k) (hp:pre=false):cQ V (ou ih j c' hd k hs') hs A c md pre t κ own old m i gl eqs ob:=by
 subst ht hp
 refine qT ?_
 dsimp only [ou]
 generalize hm:okMark hd=b
 generalize hn:V.nat j c' (V.t₀+i)=oy
 induction b with
 |false=>exact ai (hs:=hs) 45
 |true=>induction oy with
  |none=>exact ai (hs:=hs) 50
  |some y=>
   obtain ⟨v,x,q,p⟩:=y
   have G1:=IH V O hs' A c md false (k (.ok (.ret v))) κ own old m (i+x) gl (us q++eqs) (p++ob)
   refine ⟨λ ps=>⟨λ y hy=>(G1.1 ps).1 y (bu _ hy),λ y hy=>(G1.1 ps).2 y (bu _ hy)⟩,λ H h G=>?_⟩
   have z:=G1.2 H h G
   have F:=H λ _=>qV
   have hq:∀ y∈q,y.1=y.2:=λ y hy=>F.1 (.v y.1 y.2) ((G1.1 λ _=>qV).1 _ (aI _ (aY.mpr ⟨y,hy,rfl⟩)))
   have hpp:∀ y∈p,y:=λ y hy=>F.2.1 y ((G1.1 λ _=>qV).2 y (aI _ hy))
   have nk:=O.nat j c' (V.t₀+i) v x q p hn hq hpp
   have es:sh V h (i+x) gl=⟨h,gens V gl,V.d,V.t₀+i+x,V.os⟩:=by unfold sh;rw [Nat.add_assoc]
   rw [es] at z
   induction md with
   |none=>exact y_call _ _ _ _ _ _ _ _ _ _ _ _ _ (dI hm) (nk _ _ h (gens V gl) V.d V.os z)
   |some fs=>exact yW (dI hm) (nk _ _ h (gens V gl) V.d V.os z)
theorem qY {g:Bool}(ht:t=.call c' hd g l k) (hp:pre=false):cQ V (sM ih j ll c' hd k hs') hs A c md pre t κ own old m i gl eqs ob:=by
 subst ht hp
 refine qT ?_
 dsimp only [sM]
 generalize q:okMark hd=b
 generalize hl:dh c=b2
 induction b with
 |false=>exact ai (hs:=hs) 45
 |true=>induction md with
  |none=>induction b2 with
   |false=>exact ai (hs:=hs) 88
   |true=>exact rR O IH (hs:=hs') j ll c' (Aj A hd) k λ s x=>y_call _ _ _ _ _ _ _ _ _ _ _ _ _ (dI q) (aM (jt hl) x)
  |some fs=>exact rR O IH (hs:=hs') j ll c' ((A.over c fs).mark hd) k λ s x=>yW (dI q) x
theorem qC (ht:t=.pure (.again c')):cQ V (nT ih j ll c' hs') hs A c md pre t κ own old m i gl eqs ob:=by
 subst ht
 refine qT ?_
 dsimp only [nT]
 generalize q:c'.quiet=b
 induction md with
 |some _=>exact ai (hs:=hs) 86
 |none=>induction pre with
  |true=>exact ai (hs:=hs) 87
  |false=>induction b with
   |false=>exact ai (hs:=hs) 47
   |true=>
    exact rR O IH (hs:=hs') j ll c' A leafOf λ s x=>by
     intro Γ p hc hΓ
     show postC V.prog V.w A (bB V κ) (.again c') s
     refine y_again _ _ _ _ _ _ q (codeAny_mono x λ r s' h'=>?_)
     induction r with
     |ok f=>exact h' Γ p hc hΓ
     |error e=>exact h' Γ p hc hΓ
theorem xV (c':Code) (hd:Option Value) (g:Bool) (l:List Value) (k:Result→Sem PySem.Fin) (ht:t=.call c' hd g l k):cQ V (Dc ih c' hd g l k) hs A c md pre t κ own old m i gl eqs ob:=by
 subst ht
 match hs with
 |[]=>exact ai (hs:=[]) 21
 |hh::hs'=>
  induction pre with
  |true=>exact ai (hs:=hh::hs') 49
  |false=>
   induction hh with
   |f=>
    induction md with
    |some _=>exact ai (hs:=.f::hs') 18
    |none=>
     have z:=wb (V:=V) O IH (hs:=hs') (A:=A) (c:=c) (md:=none) (pre:=false) (t:=.call c' hd g l k) (κ:=κ) (own:=own) (old:=old) (m:=m) (i:=i) (gl:=gl) (eqs:=eqs) (ob:=ob) hd c' g l k rfl rfl rfl
     exact z
   |e=>
    induction md with
    |none=>
     have z:=rq (V:=V) O IH (hs:=hs') (A:=A) (c:=c) (md:=none) (pre:=false) (t:=.call c' hd g l k) (κ:=κ) (own:=own) (old:=old) (m:=m) (i:=i) (gl:=gl) (eqs:=eqs) (ob:=ob) hd c' g l k rfl rfl rfl
     exact z
    |some fs=>
     have G1:=λ p=>IH V O hs' A c' (some (.ret k hd g l c p []::fs)) false (Zd c') κ own old m i gl eqs ob
     refine ⟨λ ps=>(G1 (ps 0).p).1 (zM ps),λ H h G=>s_call _ _ _ _ _ _ _ _ _ _ _ _ λ p=>?_⟩
     rw [l8]
     exact (G1 p).2 (λ ps=>H (C8 p ps)) h G
   |s=>exact jC (V:=V) O (g:=aS 0) (hs':=hs') (mF 0) (λ ps=>rfl) λ h G x=>x h G
   |a j=>
    induction md with
    |some fs=>exact ai (hs:=.a j::hs') 74
    |none=>
     have z:=sT (V:=V) O IH (hs:=hs') (A:=A) (c:=c) (md:=none) (pre:=false) (t:=.call c' hd g l k) (κ:=κ) (own:=own) (old:=old) (m:=m) (i:=i) (gl:=gl) (eqs:=eqs) (ob:=ob) j hd c' g l k rfl rfl rfl
     exact z
   |p j=>exact ai (hs:=.p j::hs') 20
   |c j ll=>exact qY O IH (hs:=.c j ll::hs') rfl rfl
   |k=>exact ai (hs:=.k::hs') 20
   |w j=>exact ai (hs:=.w j::hs') 20
   |o j=>exact ai (hs:=.o j::hs') 20
   |n j=>exact qO O IH (hs:=.n j::hs') rfl rfl
theorem sg (g:Nat) (r:Resume) (l:List Value) (k:GenResult→Sem PySem.Fin) (ht:t=.resume g r l k):cQ V (uL ih g r k) hs A c md pre t κ own old m i gl eqs ob:=by
 subst ht
 induction md with
 |some _=>exact ai (hs:=hs) 51
 |none=>
  induction pre with
  |true=>exact ai (hs:=hs) 52
  |false=>
   match gl with
   |[]=>exact ai (hs:=hs) 53
   |x::y::l=>exact ai (hs:=hs) 54
   |[x]=>
    induction x with
    |running=>exact ai (hs:=hs) 57
    |finished=>exact ai (hs:=hs) 57
    |suspended k₀ l₀ c₀ p₀ fs₀ cl=>
     refine uO (V:=V) O (g:=ih) (hs':=hs) (A':=A.under c) (c':=c₀) (md':=some fs₀) (pre':=false) (t':=k₀ r) (κ':=.gen A c k V.gg.1.size κ) (own':=own) (m':=m) (i':=i) (gl':=[.running]) (a:=.int g 0) (b:=.int V.gg.1.size 0) IH (λ ps=>rfl)
      λ e h G x=>?_
     have e':=k7 e
     subst e'
     have z:=x h G
     refine y_resume_s _ _ _ _ _ _ _ _ _ _ _ _ k₀ l₀ c₀ p₀ fs₀ cl (oK V _ h i) ?_
     rw [oF];exact z
    |fresh c₀=>
     induction r with
     |throw _=>exact ai (hs:=hs) 56
     |send v=>
      induction v with
      |none=>
       refine uO (V:=V) O (g:=ih) (hs':=hs) (A':=A.under c) (c':=c₀) (md':=some []) (pre':=false) (t':=Zd c₀) (κ':=.gen A c k V.gg.1.size κ) (own':=own) (m':=m) (i':=i) (gl':=[.running]) (a:=.int g 0) (b:=.int V.gg.1.size 0) IH (λ ps=>rfl)
        λ e h G x=>?_
       have e':=k7 e
       subst e'
       have z:=x h G
       refine y_resume_f _ _ _ _ _ _ _ _ _ _ _ c₀ (oK V _ h i) ?_
       rw [oF,l8];exact z
      |_=>exact ai (hs:=hs) 55
theorem va (o:Obj) (k:Addr→Sem PySem.Fin) (ht:t=.alloc o k):cQ V (rb ih o k) hs A c md pre t κ own old m i gl eqs ob:=by
 subst ht
 refine qT ?_
 dsimp only [rb]
 generalize hf:o.isFreed=b
 induction b with
 |true=>exact ai (hs:=hs) 16
 |false=>
  refine iE O IH (λ ps=>rfl) λ h G x=>?_
  have ea:h.objs.size=V.n+m:=G.2
  have G':Gd V ((V.n+m,o)::own) old (m+1) (h.push o):=⟨ea▸G.1.alloc hf,by rw [Heap.size_push,G.2,Nat.add_assoc]⟩
  have z:=x _ G'
  rw [←ea] at z
  induction md with
  |none=>exact bG (m:=alloc o) (f:=k) (eY (wpAny_alloc z))
  |some fs=>exact s_cmd _ _ _ _ _ _ (m:=PySem.alloc o) (k:=k) (wpAny_alloc z)
theorem wx (v:Value) (l:List Value) (k:Resume→Sem PySem.Fin) (fs:List Frame) (ht:t=.yield v false l k) (hm:md=some fs):cQ V (rJ ih v l k fs) hs A c md pre t κ own old m i gl eqs ob:=by
 subst ht hm
 have z:=λ p=>C7 (V:=V) (ih:=ih) O IH (hs:=hs) (A:=A) (c:=c) (md:=some fs) (pre:=pre) (t:=.yield v false l k) (κ:=κ) (own:=own) (old:=old) (m:=m) (i:=i) (gl:=gl) (eqs:=eqs) (ob:=ob) (.susp v false l k c p fs)
 refine qT ?_
 dsimp only [rJ]
 generalize hfs:splitAtGen fs=y
 generalize hfg:fs.any Frame.guarded=b
 induction y with
 |some _=>exact ai (hs:=hs) 65
 |none=>induction b with
  |true=>exact ai (hs:=hs) 66
  |false=>
   refine ⟨λ ps=>(z (ps 0).p).1 (zM ps),λ H h G=>?_⟩
   by_cases hc:∃ p,¬ ∀ h,Gd V own old m h→jc V κ (.susp v false l k c p fs) (sh V h i gl)
   ·obtain ⟨p,hp⟩:=hc
    rcases (z p).2 rfl (λ ps=>H (C8 p ps)) with q|q
    ·exact absurd q hp
    ·exact q h G
   ·refine s_yield _ _ _ _ _ _ _ _ _ _ hfs hfg λ p=>?_
    exact (Classical.byContradiction λ q=>hc ⟨p,q⟩) h G
theorem yE:∀ hs A c md pre t κ own old m i gl eqs ob,cQ V (pK ih) hs A c md pre t κ own old m i gl eqs ob:=by
 intro hs A c md pre t κ own old m i gl eqs ob
 show cQ V (pK ih) hs A c md pre t κ own old m i gl eqs ob
 have skim:∀ {t t':Sem PySem.Fin},(∀ h,Mn V A c md pre t' κ (sh V h i gl)→Mn V A c md pre t κ (sh V h i gl))→(∀ ps,pK ih V ps hs A c md pre t κ own old m i gl eqs ob=ih V ps hs A c md pre t' κ own old m i gl eqs ob)→
   cQ V (pK ih) hs A c md pre t κ own old m i gl eqs ob:=λ hx e=>jC (V:=V) O (g:=ih) IH e λ h G x=>hx h (x h G)
 induction t with
 |pure fin=>
  induction fin with
  |done f=>exact uM O IH (.ok f) rfl
  |again c'=>
   match hs with
   |[]=>exact ai (hs:=[]) 6
   |.e::hs'=>exact wT O IH c' rfl
   |.a j::hs'=>exact rW O IH j c' rfl
   |.s::hs'=>exact jC (V:=V) O (g:=aS 0) (hs':=hs') (mF 0) (λ ps=>rfl) λ h G x=>x h G
   |.p j::hs'=>exact ai (hs:=.p j::hs') 5
   |.c j ll::hs'=>exact qC O IH (hs:=.c j ll::hs') rfl
   |.k::hs'=>exact ai (hs:=.k::hs') 5
   |.f::hs'=>exact ai (hs:=.f::hs') 5
   |.w j::hs'=>exact ai (hs:=.w j::hs') 5
   |.o j::hs'=>exact ai (hs:=.o j::hs') 5
   |.n j::hs'=>exact ai (hs:=.n j::hs') 5
 |raise e=>exact uM O IH (.error e) rfl
 |rule tag k=>
  refine skim (t':=k ()) (λ h z=>?_) λ ps=>rfl
  induction md with
  |none=>exact y_skim _ _ _ _ _ _ _ _ _ 1 z
  |some fs=>exact s_skim _ _ _ _ _ _ _ _ 1 z
 |«at» q k=>
  refine skim (t':=k ()) (λ h z=>?_) λ ps=>rfl
  induction md with
  |none=>exact y_skim _ _ _ _ _ _ _ _ _ 1 z
  |some fs=>exact s_skim _ _ _ _ _ _ _ _ 1 z
 |point l k=>
  refine skim (t':=k ()) (λ h z=>?_) λ ps=>rfl
  induction md with
  |none=>exact y_skim _ _ _ _ _ _ _ _ _ 1 z
  |some fs=>exact s_skim _ _ _ _ _ _ _ _ 1 z
 |ask k=>
  refine skim (t':=k ⟨V.prog,V.w.params⟩) (λ h z=>?_) λ ps=>rfl
  induction md with
  |none=>exact y_skim _ _ _ _ _ _ _ _ _ 1 z
  |some fs=>exact s_skim _ _ _ _ _ _ _ _ 1 z
 |load a q k=>exact yp O IH a q k rfl
 |update a q f k=>exact Bj O IH a q f k rfl
 |alloc o k=>exact va O IH o k rfl
 |fresh k=>
  refine jC (V:=V) O (g:=ih) (hs':=hs) (A':=A) (c':=c) (md':=md) (pre':=pre) (t':=k (V.t₀+i)) (κ':=κ) (own':=own) (m':=m) (i':=i+1) (gl':=gl) IH (λ ps=>rfl) λ h G x=>?_
  have z:=x h G
  induction md with
  |none=>exact y_fresh _ _ _ _ _ _ _ _ _ _ _ _ _ z
  |some fs=>exact s_fresh _ _ _ _ _ _ _ _ _ _ _ _ z
 |handled own' k=>
  cases own' with
  |true=>exact ai (hs:=hs) 17
  |false=>
   induction md with
   |none=>exact jC (V:=V) O (g:=ih) (hs':=hs) (A':=A) (c':=c) (md':=none) (pre':=pre) (t':=k (A.under c).handled) (κ':=κ) (own':=own) (m':=m) (i':=i) (gl':=gl) IH (λ ps=>rfl) λ h G x=>y_handled _ _ _ _ _ _ _ _ _ (x h G)
   |some fs=>exact jC (V:=V) O (g:=ih) (hs':=hs) (A':=A) (c':=c) (md':=some fs) (pre':=pre) (t':=k (A.over c fs).handled) (κ':=κ) (own':=own) (m':=m) (i':=i) (gl':=gl) IH (λ ps=>rfl) λ h G x=>s_handled _ _ _ _ _ _ _ _ (x h G)
 |call c' hd g l k=>exact xV O IH c' hd g l k rfl
 |newGen c' k=>
  induction md with
  |some _=>exact ai (hs:=hs) 58
  |none=>
   match gl with
   |x::l=>exact ai (hs:=hs) 59
   |[]=>
    refine jC (V:=V) O (g:=ih) (hs':=hs) (A':=A) (c':=c) (md':=none) (pre':=pre) (t':=k V.gg.1.size) (κ':=κ) (own':=own) (m':=m) (i':=i) (gl':=[.fresh c']) IH (λ ps=>rfl) λ h G x=>?_
    have z:=x h G
    have e1:gens V []=V.gg.1:=by unfold gens;simp
    have e2:gens V [.fresh c']=V.gg.1.push (.fresh c'):=by unfold gens;apply Array.ext';simp
    refine y_newGen _ _ _ _ _ _ _ _ _ _ _ _ _ _ ?_
    rw [e1,←e2];exact z
 |genState g k=>
  induction md with
  |some _=>exact ai (hs:=hs) 60
  |none=>
   match gl with
   |[]=>exact ai (hs:=hs) 61
   |x::y::l=>exact ai (hs:=hs) 62
   |[x]=>
    refine uO (V:=V) O (g:=ih) (hs':=hs) (A':=A) (c':=c) (md':=none) (pre':=pre) (t':=k x.seen) (κ':=κ) (own':=own) (m':=m) (i':=i) (gl':=[x]) (a:=.int g 0) (b:=.int V.gg.1.size 0) IH (λ ps=>rfl) λ e h G z=>?_
    have e':=k7 e
    subst e'
    exact y_genState _ _ _ _ _ _ _ _ _ _ x (oK V x h i) (z h G)
 |resume g r l k=>exact sg O IH g r l k rfl
 |yield v gd l k=>
  induction md with
  |none=>exact ai (hs:=hs) 63
  |some fs=>
   induction gd with
   |true=>exact ai (hs:=hs) 64
   |false=>
    exact wx O IH v l k fs rfl rfl
 |unsupported=>exact ai (hs:=hs) 30
 |finish=>exact ai (hs:=hs) 30
 |register=>exact ai (hs:=hs) 30
 |choose=>exact ai (hs:=hs) 30
 |os=>exact ai (hs:=hs) 30
 |loadIfAlive=>exact ai (hs:=hs) 30
 |stack k=>
  have G1:=λ (p:Pos×List (Code×Pos))=>IH V O hs A c md pre (k ((c,p.1)::p.2)) κ own old m i gl eqs ob
  refine ⟨λ ps=>(G1 ((ps 0).p,(ps 0).l)).1 (zM ps),λ H h G=>?_⟩
  have z:=λ (p:Pos) (below:List (Code×Pos))=>(G1 (p,below)).2 (λ ps=>H (GN (p,below) ps)) h G
  induction md with
  |none=>exact y_stack _ _ _ _ _ _ _ _ _ λ p below _=>z p below
  |some fs=>exact s_stack _ _ _ _ _ _ _ _ λ p below _=>z p below
 |fork=>exact ai (hs:=hs) 30
 |thread=>exact ai (hs:=hs) 30
 |await=>exact ai (hs:=hs) 30
end
theorem fx:∀ n,A6 (Bn n)
 |0=>mF 1
 |n+1=>λ V O=>yE O (fx n)
section
noncomputable abbrev RS.FineOf (r:RS) (V:RV):Prop:=r.Fine
noncomputable def K0 (w:World):KF:=λ a=>(Fm w.params).get a
theorem xA (w:World) (h:Heap) (X:(K0 w).In h):h.NoLimit:=by
 have h2:=X 2 (Hf w.params) rfl
 exact ⟨λ _=>none,⟨_,#[],0,h2,rfl,λ e he=>by simp at he,λ x=>rfl⟩,rfl⟩
noncomputable def fj:ws:=λ _ _ _=>none
theorem aO (w:World):tS pg w fj:=λ j c tk v x q p h=>by cases h
noncomputable def Dt:Nat→Code→Option (Sem PySem.Fin):=λ _ _=>none
theorem xm (w:World):yB pg w Dt:=λ j c t h=>by cases h
noncomputable def vv (w:World) (nat:ws) (H:Heap) (F:List Addr) (n t₀:Nat) (gg:BG) (d:Drawn) (os:OsState) (R:RP):RV:=⟨⟨pg,w,K0 w,H,F,d,os,R,nat,Dt,[],[],[]⟩,n,t₀,gg⟩
theorem cu {nat:ws}{F:List Addr}{n:Nat}(hn:tS pg w nat):(vv w nat H F n t₀ gg d os R).toRF.Ok:=⟨xA w,hn,xm w,λ _ h=>(nomatch h),λ _ h=>(nomatch h)⟩
noncomputable def i6 (K:KF) (c:Code):Bool×Sem PySem.Fin:=match c with
 |.call (.ref f) args=>match K f with
  |some o=>match o.data with
   |.func fd=>match fd.scope.isGenerator||fd.scope.isCoroutine with
    |false=>(true,gX f fd args)
    |true=>(false,Zd c)
   |_=>(false,Zd c)
  |none=>(false,Zd c)
 |_=>(false,Zd c)
theorem vS {A:Around}{c:Code}{own:aq}(G:Gd V own old 0 h) (x:Mn V A c none (i6 V.K c).1 (i6 V.K c).2 .base (sh V h 0 [])):codeAny (model V.prog V.w) A c V.R (sh V h 0 []):=by
 have gen:Mn V A c none false (Zd c) .base (sh V h 0 [])→codeAny (model V.prog V.w) A c V.R (sh V h 0 []):=λ z=>by
  refine y_code _ _ _ _ _ _ ?_
  rw [l8];exact z
 cases c with
 |call f args=>
  cases f with
  |ref f=>
   cases hK:V.K f with
   |none=>simp only [i6,hK] at x;exact gen x
   |some o=>
    cases hd:o.data with
    |func fd=>
     cases hg:(fd.scope.isGenerator||fd.scope.isCoroutine) with
     |true=>simp only [i6,hK,hd,hg] at x;exact gen x
     |false=>
      simp only [i6,hK,hd,hg] at x
      exact y_code _ _ _ _ _ _ (j9 (G.1.kin f o hK) hd hg x)
    |_=>simp only [i6,hK,hd] at x;exact gen x
  |_=>exact gen x
 |_=>exact gen x
noncomputable def dup (l:List E2):List E2:=l.map E2.dup
theorem dup_ok {l:List E2}(e:l=dup l):∀ y∈l,y.holds:=λ y hy=>by
 rw [e] at hy
 obtain ⟨p,_,rfl⟩:=aY.mp hy
 exact p.dup_ok
@[irreducible] noncomputable def EK (V:RV) (hs:List Hn) (A:Around) (c:Code) (own old:aq) (ps:Ps):RS:=Bn 1000000 V ps hs A c none (i6 V.K c).1 (i6 V.K c).2 .base own old 0 0 [] [] []
theorem go (O:V.toRF.Ok) (hs:List Hn) {A:Around}{c:Code}{own:aq}(L:ag V.K V.H h V.F own old) (hn:h.objs.size=V.n) (x:∀ ps,(EK V hs A c own old ps).FineOf V):
  codeAny (model V.prog V.w) A c V.R ⟨h,V.gg,V.d,V.t₀,V.os⟩:=by
 have G:Gd V own old 0 h:=⟨L,hn⟩
 unfold EK at x
 have z:=vS G ((fx 1000000 V O hs A c none (i6 V.K c).1 (i6 V.K c).2 .base own old 0 0 [] [] []).2 x h G)
 unfold sh at z
 rw [dy] at z
 exact z
noncomputable def RS.kont (r:RS) (q:Result):Sem PySem.Fin:=match r.t with
 |.call _ _ _ _ k=>k q
 |_=>.unsupported "kont"
@[irreducible] noncomputable def xF (V:RV) (hs:List Hn) (r:RS) (q:Result) (own old:aq) (ps:Ps):RS:=Bn 1000000 V ps hs r.A r.c r.md false (r.kont q) r.κ own old 0 0 [] [] []
structure fC where
 md:Option (List Frame)
 pre:Bool
 kt:Bool
 t:Sem PySem.Fin
 own:List (Option (Addr×Obj))
 tl:aq
 ob:List Prop
 q:Bool
 le:Bool
 hdl:Option Value
 fr:Option (List Env)
noncomputable def ik (κ:Kt):Bool:=Kt.casesOn κ true (λ _ _ _ _=>false) λ _ _ _ _ _=>false
noncomputable def yT (κ:Kt):Bool:=Kt.casesOn κ false (λ _ _ _ _=>true) λ _ _ _ _ _=>false
theorem jd (h:ik κ=true):κ=.base:=by
 induction κ
 ·rfl
 ·exact nomatch h
 ·exact nomatch h
noncomputable def Cf:Result→Sem PySem.Fin
 |.ok f=>.pure (.done f)
 |.error e=>.raise e
theorem w4 {A:Around}{c:Code}{f:Result}{s:Shared}(x:V.R f s):Mn V A c none false (Cf f) .base s:=by
 induction f
 ·exact λ Γ p hc hΓ=>x
 ·exact y_pure _ _ _ _ _ _ _ _ _ x
theorem Ch {A:Around}{c:Code}{s:Shared}(q:c'.quiet=true) (ar:Ar A A₀) (x:codeAny (model V.prog V.w) A₀ c' (bB V κ) s):Mn V A c none false (.pure (.again c')) κ s:=
 y_pure _ _ _ _ _ _ _ _ _ (y_again _ _ _ _ _ _ q (aM ar x))
noncomputable def Bx:Sem PySem.Fin→Option (Code×Option Value×(Result→Sem PySem.Fin))
 |.call c hd _ _ k=>some (c,hd,k)
 |_=>none
theorem BM {p:Code×Option Value×(Result→Sem PySem.Fin)}(h:Bx t=some p):∃ g l,t=.call p.1 p.2.1 g l p.2.2:=by
 cases t
 case call c hd g l k=>
  have h:=bo h
  subst h
  exact ⟨g,l,rfl⟩
 all_goals exact nomatch h
theorem fZ {A:Around}(h:kO A A₀=true) (hh:A.handled=A₀.handled) (hf:A₀.frames=none) (hg:A₀.guards=none):Ar A A₀:=by
 unfold kO at h
 split at h
 ·rename_i e
  exact ⟨hh,bp e,.inl hf,.inl hg,bp h⟩
 ·exact nomatch h
theorem xx {A:Around}(h:kO A A₀=true) (hh:A.handled=A₀.handled) (hf:A₀.frames=A.frames) (hg:A₀.guards=none):Ar A A₀:=by
 have z:=fZ (A:=⟨A.handled,A.depth,none,none,A.units⟩) (A₀:=⟨A₀.handled,A₀.depth,none,none,A₀.units⟩) h hh rfl rfl
 exact ⟨hh,z.dp,.inr hf,.inl hg,z.un⟩
noncomputable def tn (V:RV) (r:RS) (q:Result) (s:Shared):Prop:=Mn V r.A r.c none false (r.kont q) r.κ s
section
theorem nB {f:Result}(e1:r.eqs=dup r.eqs) (m:r.md=none) (p:r.pre=false) (b:ik r.κ=true) (hf:r.t=Cf f) (ho:∀ y∈r.ob,y) (x:∀ h,Gd r.V r.own r.old r.m h→r.V.R f (sh r.V h r.i r.gl)):r.Fine:=by
 refine ⟨dup_ok e1,ho,λ h G=>?_⟩
 rw [m,p,jd b,hf]
 exact w4 (x h G)
theorem lZ {c:Code×Option Value×(Result→Sem PySem.Fin)}(e1:r.eqs=dup r.eqs) (m:r.md=none) (p:r.pre=false) (hc:Bx r.t=some c) (hq:okMark c.2.1=true) (ar:Ar ((r.A.under r.c).mark c.2.1) A₀) (ho:∀ y∈r.ob,y) (x:∀ h,Gd r.V r.own r.old r.m h→codeAny (model r.V.prog r.V.w) A₀ c.1 (tn r.V r) (sh r.V h r.i r.gl)):r.Fine:=by
 refine ⟨dup_ok e1,ho,λ h G=>?_⟩
 have z:=x h G
 obtain ⟨g,l,e⟩:=BM hc
 unfold tn RS.kont at z
 rw [e] at z
 rw [m,p,e]
 exact y_call _ _ _ _ _ _ _ _ _ _ _ _ _ (dI hq) (aM ar z)
theorem iH {c:Code}(e1:r.eqs=dup r.eqs) (m:r.md=none) (p:r.pre=false) (hc:r.t=.pure (.again c)) (q:c.quiet=true) (ar:Ar r.A A₀) (ho:∀ y∈r.ob,y) (x:∀ h,Gd r.V r.own r.old r.m h→codeAny (model r.V.prog r.V.w) A₀ c (bB r.V r.κ) (sh r.V h r.i r.gl)):r.Fine:=by
 refine ⟨dup_ok e1,ho,λ h G=>?_⟩
 rw [m,p,hc]
 exact Ch q ar (x h G)
end
structure Hw where
 f:Flow
 objs:List (Option (Addr×Obj))
 m:Nat
 i:Nat
 gl:List GenState
 ob:List Prop
structure De where
 c:Code
 hdl:Option Value
 le:Bool
 objs:List (Option (Addr×Obj))
 m:Nat
 i:Nat
 gl:List GenState
 ob:List Prop
noncomputable def RS.pop (r:RS):RS:=Kt.casesOn r.κ r (λ A c k κ=>{ r with A:=A,c:=c,κ:=κ,t:=.call (.expr default default) none false [] k }) λ _ _ _ _ _=>r
theorem zt (i:r.md=none):r.pop.md=none:=by
 unfold RS.pop
 generalize r.κ=κ
 induction κ
 ·exact i
 ·exact i
 ·exact i
theorem uY (b:yT r.κ=true) {q:Result}{s:Shared}(h:tn V r.pop q s):bB V r.κ q s:=by
 unfold RS.pop at h
 generalize r.κ=κ at b h
 induction κ
 ·exact nomatch b
 ·exact h
 ·exact nomatch b
noncomputable def mz (V:RV):List GenState→Array GenState
 |[]=>V.gg.1
 |[x]=>V.gg.1.push x
 |gl=>gens V gl
theorem iB (V:RV):∀ gl,gens V gl=mz V gl
 |[]=>dy V
 |[x]=>by unfold gens mz;apply Array.ext';simp
 |_::_::_=>rfl
noncomputable def EY (L:aq) (l:List (Option (Addr×Obj))) (sel:List Nat):Prop:=sel.map (λ j=>L[j]?)=l
theorem b7 (sel:List Nat) (v:Hw) (e:(r.V,r.eqs,r.md,r.pre,ik r.κ,r.t,sel.map λ j=>r.own[j]?,r.i,r.gl,r.ob)=(V,dup r.eqs,none,false,true,Cf (.ok v.f),v.objs,v.i,v.gl,v.ob)) (ho:∀ y∈v.ob,y)
  (x:∀ h,ag V.K V.H h V.F r.own r.old→EY r.own v.objs sel→V.R (.ok v.f) ⟨h,mz V v.gl,V.d,V.t₀+v.i,V.os⟩):r.FineOf V:=by
 obtain ⟨eV,e⟩:=aH e
 obtain ⟨e1,e⟩:=aH e
 obtain ⟨e2,e⟩:=aH e
 obtain ⟨e3,e⟩:=aH e
 obtain ⟨e4,e⟩:=aH e
 obtain ⟨e5,e⟩:=aH e
 obtain ⟨e6,e⟩:=aH e
 obtain ⟨e7,e⟩:=aH e
 obtain ⟨e8,e9⟩:=aH e
 subst eV
 refine nB e1 e2 e3 e4 e5 (e9▸ho) λ h G=>?_
 unfold sh
 rw [iB,e7,e8]
 exact x h G.1 e6
end
variable {gl:List GenState}{pre:Bool}
section
theorem EY.get {L:aq}{l:List (Option (Addr×Obj))}{sel:List Nat}(h:EY L l sel) (k:Nat) {o:Obj}(hl:l[k]?=some (some (a,o)):=by rfl) (hs:sel[k]?=some j:=by rfl):L[j]?=some (a,o):=by
 unfold EY at h
 rw [←h,List.getElem?_map,hs] at hl
 exact bo hl
theorem ag.neOwn {F:List Addr}{own:aq}(L:ag K H h F own old) {ob:Obj}(hi:own[i]?=some (a,oa)) (hj:own[j]?=some (b,ob)) (ij:Nat.beq i j=false:=by rfl):a≠b:=by
 rintro rfl
 have e:i=j:=gG L.ndOwn hi hj
 subst e
 rw [Nat.beq_refl] at ij;cases ij
theorem ag.neOld {F:List Addr}{own:aq}(L:ag K H h F own old) {ob:Obj}(hi:own[i]?=some (a,oa)) (hj:old[j]?=some (b,ob)):a≠b:=by
 have nd:=L.nd
 rw [aW] at nd
 exact (bX.mp nd).2.2 a (bW (bQ hi)) b (bW (bQ hj))
theorem ag.neKO {F:List Addr}{own:aq}(L:ag K H h F own old) (hi:own[i]?=some (a,oa)) (hb:(K b).isSome=true):a≠b:=by
 rintro rfl
 rw [L.off _ (bQ hi)] at hb;cases hb
theorem ag.offOwn {F:List Addr}{own:aq}(L:ag K H h F own old) {o:Obj}(hi:own[i]?=some (a,o)):K a=none:=L.off _ (bQ hi)
theorem ag.offOld {F:List Addr}{own:aq}(L:ag K H h F own old) {o:Obj}(hi:old[i]?=some (a,o)):K a=none:=L.offo _ (bQ hi)
theorem nE (A₀:Around) (sel:List Nat) (v:De) (e:(r.V,r.eqs,r.md,r.pre,(Bx r.t).map λ c=>(c.1,okMark c.2.1,((r.A.under r.c).mark c.2.1).handled,kO ((r.A.under r.c).mark c.2.1) A₀),sel.map λ j=>r.own[j]?,r.m,r.i,r.gl,r.ob)=(V,dup r.eqs,none,false,some (v.c,true,v.hdl,v.le),v.objs,v.m,v.i,v.gl,v.ob)) (hle:v.le=true) (hh:v.hdl=A₀.handled) (hf:A₀.frames=none) (hg:A₀.guards=none) (ho:∀ y∈v.ob,y)
  (x:∀ h,ag V.K V.H h V.F r.own r.old→h.objs.size=V.n+v.m→EY r.own v.objs sel→r.md=none→codeAny (model V.prog V.w) A₀ v.c (tn V r) ⟨h,mz V v.gl,V.d,V.t₀+v.i,V.os⟩):r.FineOf V:=by
 obtain ⟨eV,e⟩:=aH e
 obtain ⟨e1,e⟩:=aH e
 obtain ⟨e2,e⟩:=aH e
 obtain ⟨e3,e⟩:=aH e
 obtain ⟨e4,e⟩:=aH e
 obtain ⟨e5,e⟩:=aH e
 obtain ⟨e6,e⟩:=aH e
 obtain ⟨e7,e⟩:=aH e
 obtain ⟨e8,e9⟩:=aH e
 obtain ⟨c,hc,e4⟩:=Option.map_eq_some_iff.mp e4
 obtain ⟨q1,e⟩:=aH e4
 obtain ⟨q2,e⟩:=aH e
 obtain ⟨q3,q4⟩:=aH e
 subst eV
 refine lZ e1 e2 e3 hc q2 (fZ (q4.trans hle) (q3.trans hh) hf hg) (e9▸ho) λ h G=>?_
 unfold sh
 rw [iB,e7,e8,q1]
 exact x h G.1 (e6▸G.2) e5 e2
theorem jy (O:V.toRF.Ok) {q:Result}{t n:Nat}(hn:h.objs.size=n) (hs:List Hn) {own:aq}(L:ag V.K V.H h V.F own old) (hmd:r.md=none)
  (x:∀ ps,(xF (V2 V n t g) hs r q own old ps).FineOf (V2 V n t g)):tn V r q ⟨h,g,V.d,t,V.os⟩:=by
 have O':(V2 V n t g).toRF.Ok:=O
 unfold xF at x
 have G:Gd (V2 V n t g) own old 0 h:=⟨L,hn⟩
 have z:=(fx 1000000 _ O' hs r.A r.c r.md false (r.kont q) r.κ own old 0 0 [] [] []).2 x h G
 rw [hmd] at z
 unfold sh at z
 rw [dy] at z
 unfold tn
 show wpOwn (model V.prog V.w) r.A r.c (r.kont q) (postC V.prog V.w r.A (bB V r.κ)) (postE (bB V r.κ)) _
 rw [←dJ (V:=V) (V':=V2 V n t g) rfl rfl rfl r.κ]
 exact z
theorem eG (A₀:Around) (sel:List Nat) (v:De) (e:(r.V,r.eqs,r.md,r.pre,yT r.κ,r.t,r.A.handled,kO r.A A₀,sel.map λ j=>r.own[j]?,r.m,r.i,r.gl,r.ob,true)=(V,dup r.eqs,none,false,true,.pure (.again v.c),v.hdl,v.le,v.objs,v.m,v.i,v.gl,v.ob,v.c.quiet)) (hle:v.le=true) (hh:v.hdl=A₀.handled) (hf:A₀.frames=none) (hg:A₀.guards=none) (ho:∀ y∈v.ob,y)
  (x:∀ h,ag V.K V.H h V.F r.own r.old→h.objs.size=V.n+v.m→EY r.own v.objs sel→r.pop.md=none→codeAny (model V.prog V.w) A₀ v.c (tn V r.pop) ⟨h,mz V v.gl,V.d,V.t₀+v.i,V.os⟩):r.FineOf V:=by
 obtain ⟨eV,e⟩:=aH e
 obtain ⟨e1,e⟩:=aH e
 obtain ⟨e2,e⟩:=aH e
 obtain ⟨e3,e⟩:=aH e
 obtain ⟨b,e⟩:=aH e
 obtain ⟨e4,e⟩:=aH e
 obtain ⟨e5,e⟩:=aH e
 obtain ⟨e6,e⟩:=aH e
 obtain ⟨e7,e⟩:=aH e
 obtain ⟨e8,e⟩:=aH e
 obtain ⟨e9,e⟩:=aH e
 obtain ⟨e10,e⟩:=aH e
 obtain ⟨e11,e12⟩:=aH e
 subst eV
 refine iH e1 e2 e3 e4 e12.symm (fZ (e6.trans hle) (e5.trans hh) hf hg) (e11▸ho) λ h G=>?_
 unfold sh
 rw [iB,e9,e10]
 exact codeAny_mono (x h G.1 (e8▸G.2) e7 (zt e2)) λ q s' h'=>uY b h'
noncomputable abbrev AX:Around:=⟨none,100000,none,none,100000⟩
noncomputable def H5:aq→List (Nat×Addr×Obj)→aq
 |own,[]=>own
 |own,(j,a,o)::l=>(H5 own l).set j (a,o)
end
set_option backward.match.sparseCases true
section
@[irreducible] noncomputable def DM (V:RV) (hs:List Hn) (A:Around) (c:Code) (t:Sem Flow) (own old:aq) (ps:Ps):RS:=Bn 1000000 V ps hs A c none false (t.bind λ fl=>.pure (.done fl)) .base own old 0 0 [] [] []
noncomputable def lJ (Q:Flow→Shared→Prop) (E:Value→Shared→Prop):RP:=λ r s=>match r with
 |.ok fl=>Q fl s
 |.error e=>E e s
theorem lb {V:RV}(O:V.toRF.Ok) (hs:List Hn) {A:Around}{c:Code}{t:Sem Flow}{Q:Flow→Shared→Prop}{E:Value→Shared→Prop}(hR:V.R=lJ Q E) {own old:aq}{h:Heap}(L:ag V.K V.H h V.F own old) (hn:h.objs.size=V.n)
  (x:∀ ps,(DM V hs A c t own old ps).FineOf V):wpOwn (model V.prog V.w) A c t Q E ⟨h,V.gg,V.d,V.t₀,V.os⟩:=by
 have G:Gd V own old 0 h:=⟨L,hn⟩
 unfold DM at x
 have z:=(fx 1000000 V O hs A c none false (t.bind λ fl=>.pure (.done fl)) .base own old 0 0 [] [] []).2 x h G
 unfold sh at z
 rw [dy] at z
 intro Γ p hc hΓ
 have y:Sem.wp (model V.prog V.w) Γ (t>>=λ fl=>(Sem.pure (PySem.Fin.done fl):Sem PySem.Fin)) (λ a _ s'=>QQ V A c .base false a s') (λ e _ s'=>postE (bB V .base) e s') p _:=z Γ p hc hΓ
 rw [Sem.wp_bind'] at y
 refine Sem.wp_mono _ Γ t (λ fl p' s' h'=>?_) (λ e p' s' h'=>?_) p _ y
 ·have h2:V.R (.ok fl) s':=h'
  rw [hR] at h2;exact h2
 ·have h2:V.R (.error e) s':=h'
  rw [hR] at h2;exact h2
structure F2 where
 body:List Stmt
 env:Env
 objs:List (Option (Addr×Obj))
 m:Nat
 i:Nat
theorem nH {A:Around}{body:List Stmt}{env:Env}{s:Shared}
  (x:wpOwn (model prog w) A (.func body env) (execs body env) (λ fl s'=>R (.ok (.ret (match fl with|.ret v=>v|_=>.none))) s') (λ _ _=>False) s):codeAny (model prog w) A (.func body env) R s:=by
 refine y_code _ _ _ _ _ _ ?_
 show wpOwn _ _ _ (do point;match←(execs body env).onRaise (leaving env) with|.ret v=>ret v|_=>ret .none) _ _ _
 intro Γ p hc hΓ
 have y:=x Γ p hc hΓ
 rw [Sem.wp_bind']
 show Sem.wp _ Γ (((execs body env).onRaise (leaving env))>>=_) _ _ p s
 rw [Sem.wp_bind',Sem.wp_onRaise]
 refine Sem.wp_mono _ Γ _ (λ fl p' s' h'=>?_) (λ e p' s' h'=>(h':False).elim) p s y
 cases fl<;>exact h'
theorem l0 (O:r.V.toRF.Ok) {A:Around}{body:List Stmt}{env:Env}(e1:r.eqs=dup r.eqs) (m:r.md=none) (p:r.pre=true) (b:ik r.κ=true) (ht:r.t=.pure (.again (.func body env))) (q:Nat.blt (r.A.under r.c).depth recursionLimit=true) (hA:r.A=A) (ho:r.ob=[]) (x:∀ h,Gd r.V r.own r.old r.m h→codeAny (model r.V.prog r.V.w) A (.func body env) r.V.R (sh r.V h r.i r.gl)):r.Fine:=by
 refine ⟨dup_ok e1,λ y hy=>?_,λ h G=>?_⟩
 ·rw [ho] at hy;exact nomatch hy
 ·have z:=x h G
  rw [←hA] at z
  rw [m,p,jd b,ht]
  refine y_pure _ _ _ _ _ _ _ _ _ ?_
  show wpOwn _ _ _ (enterFrame>>=λ _=>pure (PySem.Fin.again (.func body env))) _ _ _
  exact bG (eY (wpAny_enterFrame (O.lim _ G.1.kin) (bp q) (y_pure _ _ _ _ _ _ _ _ _ (y_again _ _ _ _ _ _ rfl z))))
theorem kb (O:V.toRF.Ok) (A:Around) (sel:List Nat) (v:F2) (e:(r.V,r.eqs,r.md,r.pre,ik r.κ,r.t,Nat.blt (r.A.under r.c).depth recursionLimit,sel.map λ j=>r.own[j]?,r.m,r.i,r.gl,r.ob,r.A)=(V,dup r.eqs,none,true,true,.pure (.again (.func v.body v.env)),true,v.objs,v.m,v.i,[],[],A))
  (x:∀ h,ag V.K V.H h V.F r.own r.old→h.objs.size=V.n+v.m→EY r.own v.objs sel→wpOwn (model V.prog V.w) A (.func v.body v.env) (execs v.body v.env) (λ fl s'=>V.R (.ok (.ret (match fl with|.ret v=>v|_=>.none))) s') (λ _ _=>False) ⟨h,V.gg,V.d,V.t₀+v.i,V.os⟩):r.FineOf V:=by
 obtain ⟨eV,e⟩:=aH e
 obtain ⟨e1,e⟩:=aH e
 obtain ⟨e2,e⟩:=aH e
 obtain ⟨e3,e⟩:=aH e
 obtain ⟨e4,e⟩:=aH e
 obtain ⟨e5,e⟩:=aH e
 obtain ⟨e6,e⟩:=aH e
 obtain ⟨e7,e⟩:=aH e
 obtain ⟨e8,e⟩:=aH e
 obtain ⟨e9,e⟩:=aH e
 obtain ⟨e10,e⟩:=aH e
 obtain ⟨e11,e12⟩:=aH e
 subst eV
 refine l0 O e1 e2 e3 e4 e5 e6 e12 e11 λ h G=>nH ?_
 unfold sh
 rw [e9,e10,dy]
 exact x h G.1 (e8▸G.2) e7
end
section
@[irreducible] noncomputable def tY (V:RV) (hs:List Hn) (A:Around) (c:Code) (gl:List GenState) (own old:aq) (ps:Ps):RS:=Bn 1000000 V ps hs A c none false (Zd c) .base own old 0 0 gl [] []
theorem IY (O:V.toRF.Ok) (gl:List GenState) (hs:List Hn) {A:Around}{c:Code}{own:aq}(L:ag V.K V.H h V.F own old) (hn:h.objs.size=V.n) (x:∀ ps,(tY V hs A c gl own old ps).FineOf V):
  codeAny (model V.prog V.w) A c V.R ⟨h,gens V gl,V.d,V.t₀,V.os⟩:=by
 have G:Gd V own old 0 h:=⟨L,hn⟩
 unfold tY at x
 refine y_code _ _ _ _ _ _ ?_
 rw [l8]
 exact (fx 1000000 V O hs A c none false (Zd c) .base own old 0 0 gl [] []).2 x h G
noncomputable def sE:List GenState→Option (Sem PySem.Fin×Code)
 |[x]=>match x with
  |.suspended k _ c _ fs b=>match fs with
   |[]=>match b with
    |false=>some (k (.send .none),c)
    |true=>none
   |_::_=>none
  |_=>none
 |_=>none
theorem wj {c:Code}(h:sE gl=some (t,c)):∃ k l po,gl=[.suspended k l c po [] false]∧k (.send .none)=t:=by
 unfold sE at h
 split at h
 ·split at h
  ·split at h
   ·split at h
    ·cases h;exact ⟨_,_,_,rfl,rfl⟩
    ·cases h
   ·cases h
  ·cases h
 ·cases h
end
set_option backward.match.sparseCases false
section
noncomputable def KP (w:World) (P:KF):KF:=λ a=>match (Fm w.params).get a with
 |some o=>some o
 |none=>P a
theorem mx (X:(KP w P).In h):(K0 w).In h:=λ a o e=>X a o (by unfold KP;unfold K0 at e;rw [e])
theorem Ek (w:World) (P:KF) (h:Heap) (X:(KP w P).In h):h.NoLimit:=xA w h (mx X)
theorem eJ (e:KP w P a=none):K0 w a=none:=by
 unfold KP at e
 unfold K0
 split at e
 ·cases e
 ·rename_i q;exact q
end
theorem ag.pick {F:List Addr}{own:aq}(L:ag K H h F own old) (k:Nat) (idx:List Nat) (own' tl:aq) (e:idx.map (λ i=>(own.take k)[i]?)=own'.map some) (et:own.drop k=tl) (nd:idx.Nodup) (hF:∀ a∈F,a∈(own'++tl).map (·.1)):ag K H h F (own'++tl) old:=by
 subst et
 have hm:∀ p∈own',p∈own.take k:=λ p hp=>by
  have:some p∈own'.map some:=aY.mpr ⟨p,hp,rfl⟩
  rw [←e] at this
  obtain ⟨i,_,hi⟩:=aY.mp this
  exact bQ hi
 have hm':∀ p∈own'++own.drop k,p∈own:=λ p hp=>by
  rcases dm.mp hp with hp|hp
  ·exact List.mem_of_mem_take (hm p hp)
  ·exact List.mem_of_mem_drop hp
 have nd0:=L.nd
 rw [←List.take_append_drop k own,bC,aW] at nd0
 obtain ⟨n1,n2,n3⟩:=bX.mp nd0
 have n4:(own'.map (·.1)).Nodup:=by
  have hl:own'.length=idx.length:=by have:=congrArg List.length e;simpa using this.symm
  refine List.pairwise_iff_getElem.mpr λ i j hi hj ij=>?_
  rw [fH] at hi hj
  have gi:(own.take k)[idx[i]]?=some own'[i]:=by
   have:=congrArg (λ l=>l[i]?) e
   simp only [List.getElem?_map] at this
   rw [dT (by omega:i < idx.length),dT hi] at this
   simpa using this
  have gj:(own.take k)[idx[j]]?=some own'[j]:=by
   have:=congrArg (λ l=>l[j]?) e
   simp only [List.getElem?_map] at this
   rw [dT (by omega:j < idx.length),dT hj] at this
   simpa using this
  rw [List.getElem_map,List.getElem_map]
  intro eq
  have n5:=List.pairwise_iff_getElem.mp nd i j (by omega) (by omega) ij
  have q1:own'[i]=(own'[i].1,own'[i].2):=rfl
  have q2:own'[j]=(own'[i].1,own'[j].2):=by rw [eq]
  rw [q1] at gi;rw [q2] at gj
  exact n5 (gG n1 gi gj)
 refine ⟨L.keep,λ p hp=>L.hown p (hm' p hp),L.hold,?_,hF,L.kin,λ p hp=>L.off p (hm' p hp),L.offo⟩
 rw [bC,aW]
 refine bX.mpr ⟨n4,n2,λ x hx y hy=>?_⟩
 obtain ⟨p,hp,rfl⟩:=aY.mp hx
 exact n3 _ (bW (hm p hp)) y hy
theorem dc {F:List Addr}{own tl:aq}(e:F=(own.take F.length).map (·.1)):∀ a∈F,a∈(own++tl).map (·.1):=λ a ha=>by
 rw [e] at ha
 obtain ⟨p,hp,rfl⟩:=aY.mp ha
 exact bW (aI _ (List.mem_of_mem_take hp))
section
structure cI where
 f:Result
 own:aq
 ob:List Prop
structure dK where
 c:Code
 le:Bool
 hdl:Option Value
 own:aq
 ob:List Prop
structure lD where
 c:Code
 le:Bool
 hdl:Option Value
 frames:Option (List Env)
 own:aq
 ob:List Prop
structure xj where
 body:List Stmt
 env:Env
 own:aq
noncomputable def cI.x (v:cI) (tl:aq):fC:=⟨none,false,true,Cf v.f,v.own.map some,tl,v.ob,true,true,none,none⟩
noncomputable def RS.doneV (r:RS) (sel:List Nat) (k:Nat):fC:=⟨r.md,r.pre,ik r.κ,r.t,sel.map λ j=>(r.own.take k)[j]?,r.own.drop k,r.ob,true,true,none,none⟩
noncomputable def dK.x (v:dK) (tl:aq):fC:=⟨none,false,true,.pure (.again v.c),v.own.map some,tl,v.ob,v.c.quiet,v.le,v.hdl,none⟩
noncomputable def RS.loopV (r:RS) (A₀:Around) (sel:List Nat) (k:Nat):fC:=⟨r.md,r.pre,ik r.κ,r.t,sel.map λ j=>(r.own.take k)[j]?,r.own.drop k,r.ob,true,kO r.A A₀,r.A.handled,none⟩
noncomputable def RS.tailV (r:RS) (A₀:Around) (sel:List Nat) (k:Nat):fC:=⟨r.md,r.pre,yT r.κ,r.t,sel.map λ j=>(r.own.take k)[j]?,r.own.drop k,r.ob,true,kO r.A A₀,r.A.handled,none⟩
noncomputable abbrev qF:Type:=Option (Code×Bool×Bool×Option Value×Option (List Env))×fC
noncomputable def dK.xc (v:dK) (tl:aq):qF:=(some (v.c,true,v.le,v.hdl,none),⟨none,false,true,.raise .none,v.own.map some,tl,v.ob,true,true,none,none⟩)
noncomputable def lD.x (v:lD) (tl:aq):qF:=(some (v.c,true,v.le,v.hdl,v.frames),⟨none,false,true,.raise .none,v.own.map some,tl,v.ob,true,true,none,none⟩)
noncomputable def RS.waitA (r:RS) (A₀:Around) (fr:Around→Option (List Env)) (sel:List Nat) (k:Nat):qF:=((Bx r.t).map λ c=>(c.1,okMark c.2.1,kO ((r.A.under r.c).mark c.2.1) A₀,((r.A.under r.c).mark c.2.1).handled,fr ((r.A.under r.c).mark c.2.1)),⟨r.md,r.pre,true,.raise .none,sel.map λ j=>(r.own.take k)[j]?,r.own.drop k,r.ob,true,true,none,none⟩)
noncomputable def RS.waitV (r:RS) (A₀:Around) (sel:List Nat) (k:Nat):qF:=r.waitA A₀ (λ _=>none) sel k
noncomputable def RS.waitF (r:RS) (A₀:Around) (sel:List Nat) (k:Nat):qF:=r.waitA A₀ (λ A=>A.frames) sel k
noncomputable def xj.x (v:xj) (tl:aq):fC:=⟨none,true,true,.pure (.again (.func v.body v.env)),v.own.map some,tl,[],true,true,none,none⟩
noncomputable def RS.bodyV (r:RS) (sel:List Nat) (k:Nat):fC:=⟨r.md,r.pre,ik r.κ,r.t,sel.map λ j=>(r.own.take k)[j]?,r.own.drop k,r.ob,Nat.blt (r.A.under r.c).depth recursionLimit,true,none,none⟩
theorem l7 (eV:r.V.toRF=V.toRF) (eo:r.old=V.ol) (G:Gd r.V r.own r.old r.m h):ag V.K V.H h V.F r.own V.ol:=by
 have L:ag r.V.toRF.K r.V.toRF.H h r.V.toRF.F r.own r.old:=G.1
 rw [eV,eo] at L
 exact L
theorem qM (eV:r.V.toRF=V.toRF):sh r.V h r.i r.gl=⟨h,gens r.V r.gl,V.d,r.V.t₀+r.i,V.os⟩:=by
 show (⟨h,gens r.V r.gl,r.V.toRF.d,r.V.t₀+r.i,r.V.toRF.os⟩:Shared)=_
 rw [eV]
theorem GJ (e:V'.toRF=V.toRF) {A:Around}{c:Code}{md:Option (List Frame)}:Mn V' A c md pre t κ=Mn V A c md pre t κ:=by
 obtain ⟨F,n,tk,g⟩:=V'
 dsimp only at e
 subst e
 exact p8 (V:=V)
theorem lr (eg:r.V.gg=V.gg) (egl:r.gl=gl):gens r.V r.gl=mz V gl:=by
 rw [←iB,←egl]
 unfold gens
 rw [eg]
theorem kg (sel:List Nat) (k:Nat) (tl:aq) (v:cI) (e:(r.V.toRF,r.old,r.eqs,r.gl.all GenState.bare,r.doneV sel k)=(V.toRF,V.ol,dup r.eqs,true,v.x tl)) (nd:sel.Nodup) (hF:∀ a∈V.F,a∈(v.own++tl).map (·.1)) (ho:∀ y∈v.ob,y)
  (x:∀ h (g:BG) t,gens r.V r.gl=g.1→ag V.K V.H h V.F (v.own++tl) V.ol→V.R v.f ⟨h,g,V.d,t,V.os⟩):r.FineOf V:=by
 obtain ⟨eV,e⟩:=aH e
 obtain ⟨eo,e⟩:=aH e
 obtain ⟨e1,e⟩:=aH e
 obtain ⟨eb,e2⟩:=aH e
 have q:r.ob=v.ob:=congrArg fC.ob e2
 refine nB e1 (congrArg fC.md e2) (congrArg fC.pre e2) (congrArg fC.kt e2) (congrArg fC.t e2) (q▸ho) λ h G=>?_
 rw [qM eV]
 show r.V.toRF.R v.f _
 rw [eV]
 exact x h ⟨gens r.V r.gl,fz _ eb⟩ _ rfl ((l7 eV eo G).pick k sel _ _ (congrArg fC.own e2) (congrArg fC.tl e2) nd hF)
theorem ml (A₀:Around) (sel:List Nat) (k:Nat) (tl:aq) (v:dK) (e:(r.V.toRF,r.old,r.eqs,r.gl.all GenState.bare,r.loopV A₀ sel k)=(V.toRF,V.ol,dup r.eqs,true,v.x tl)) (nd:sel.Nodup) (hF:∀ a∈V.F,a∈(v.own++tl).map (·.1)) (hle:v.le=true) (hh:v.hdl=A₀.handled) (hf:A₀.frames=none) (hg:A₀.guards=none) (ho:∀ y∈v.ob,y)
  (x:∀ h (g:BG) t,ag V.K V.H h V.F (v.own++tl) V.ol→codeAny (model V.prog V.w) A₀ v.c V.R ⟨h,g,V.d,t,V.os⟩):r.FineOf V:=by
 obtain ⟨eV,e⟩:=aH e
 obtain ⟨eo,e⟩:=aH e
 obtain ⟨e1,e⟩:=aH e
 obtain ⟨eb,e2⟩:=aH e
 have q:r.ob=v.ob:=congrArg fC.ob e2
 refine iH e1 (congrArg fC.md e2) (congrArg fC.pre e2) (congrArg fC.t e2) (congrArg fC.q e2).symm (fZ ((congrArg fC.le e2).trans hle) ((congrArg fC.hdl e2).trans hh) hf hg) (q▸ho) λ h G=>?_
 rw [qM eV,jd (congrArg fC.kt e2)]
 show codeAny (model r.V.toRF.prog r.V.toRF.w) A₀ v.c r.V.toRF.R _
 rw [eV]
 exact x h ⟨gens r.V r.gl,fz _ eb⟩ _ ((l7 eV eo G).pick k sel _ _ (congrArg fC.own e2) (congrArg fC.tl e2) nd hF)
theorem mj (A₀:Around) (sel:List Nat) (k:Nat) (tl:aq) (v:dK) (e:(r.V.toRF,r.old,r.eqs,r.gl.all GenState.bare,r.tailV A₀ sel k)=(V.toRF,V.ol,dup r.eqs,true,v.x tl)) (nd:sel.Nodup) (hF:∀ a∈V.F,a∈(v.own++tl).map (·.1)) (hle:v.le=true) (hh:v.hdl=A₀.handled) (hf:A₀.frames=none) (hg:A₀.guards=none) (ho:∀ y∈v.ob,y)
  (x:∀ h (g:BG) t,gens r.V r.gl=g.1→ag V.K V.H h V.F (v.own++tl) V.ol→r.pop.md=none→codeAny (model V.prog V.w) A₀ v.c (tn V r.pop) ⟨h,g,V.d,t,V.os⟩):r.FineOf V:=by
 obtain ⟨eV,e⟩:=aH e
 obtain ⟨eo,e⟩:=aH e
 obtain ⟨e1,e⟩:=aH e
 obtain ⟨eb,e2⟩:=aH e
 have q:r.ob=v.ob:=congrArg fC.ob e2
 have m:r.md=none:=congrArg fC.md e2
 refine iH e1 m (congrArg fC.pre e2) (congrArg fC.t e2) (congrArg fC.q e2).symm (fZ ((congrArg fC.le e2).trans hle) ((congrArg fC.hdl e2).trans hh) hf hg) (q▸ho) λ h G=>?_
 rw [qM eV,←dJ (V:=r.V) (V':=V) (congrArg RF.prog eV.symm) (congrArg RF.w eV.symm) (congrArg RF.R eV.symm)]
 show codeAny (model r.V.toRF.prog r.V.toRF.w) A₀ v.c _ _
 rw [eV]
 exact codeAny_mono (x h ⟨gens r.V r.gl,fz _ eb⟩ _ rfl ((l7 eV eo G).pick k sel _ _ (congrArg fC.own e2) (congrArg fC.tl e2) nd hF) (zt m)) λ _ _ h'=>uY (congrArg fC.kt e2) h'
theorem jh (A₀:Around) (fr:Around→Option (List Env)) (sel:List Nat) (k:Nat) (tl:aq) (v:lD) (e:(r.V.toRF,r.old,r.eqs,r.gl.all GenState.bare,r.waitA A₀ fr sel k)=(V.toRF,V.ol,dup r.eqs,true,v.x tl)) (nd:sel.Nodup) (hF:∀ a∈V.F,a∈(v.own++tl).map (·.1)) (ar:∀ A,kO A A₀=v.le→A.handled=v.hdl→fr A=v.frames→Ar A A₀) (ho:∀ y∈v.ob,y)
  (x:∀ h (g:BG) t,gens r.V r.gl=g.1→ag V.K V.H h V.F (v.own++tl) V.ol→r.md=none→codeAny (model V.prog V.w) A₀ v.c (tn V r) ⟨h,g,V.d,t,V.os⟩):r.FineOf V:=by
 obtain ⟨eV,e⟩:=aH e
 obtain ⟨eo,e⟩:=aH e
 obtain ⟨e1,e⟩:=aH e
 obtain ⟨eb,e⟩:=aH e
 obtain ⟨e3,e2⟩:=aH e
 obtain ⟨c,hc,e3⟩:=Option.map_eq_some_iff.mp e3
 have q:r.ob=v.ob:=congrArg fC.ob e2
 have m:r.md=none:=congrArg fC.md e2
 have qc:c.1=v.c:=congrArg (·.1) e3
 refine lZ e1 m (congrArg fC.pre e2) hc (congrArg (·.2.1) e3) (ar _ (congrArg (·.2.2.1) e3) (congrArg (·.2.2.2.1) e3) (congrArg (·.2.2.2.2) e3)) (q▸ho) λ h G=>?_
 rw [qM eV,qc]
 unfold tn
 rw [funext λ q=>(GJ eV:Mn r.V r.A r.c none false (r.kont q) r.κ=_)]
 show codeAny (model r.V.toRF.prog r.V.toRF.w) A₀ v.c _ _
 rw [eV]
 exact x h ⟨gens r.V r.gl,fz _ eb⟩ _ rfl ((l7 eV eo G).pick k sel _ _ (congrArg fC.own e2) (congrArg fC.tl e2) nd hF) m
theorem nP (O:V.toRF.Ok) (A:Around) (sel:List Nat) (k:Nat) (tl:aq) (v:xj) (e:(r.V.toRF,r.old,r.eqs,r.bodyV sel k,r.gl,r.A)=(V.toRF,V.ol,dup r.eqs,v.x tl,[],A)) (eg:r.V.gg=V.gg) (nd:sel.Nodup) (hF:∀ a∈V.F,a∈(v.own++tl).map (·.1))
  (x:∀ h t,ag V.K V.H h V.F (v.own++tl) V.ol→codeAny (model V.prog V.w) A (.func v.body v.env) V.R ⟨h,V.gg,V.d,t,V.os⟩):r.FineOf V:=by
 obtain ⟨eV,e⟩:=aH e
 obtain ⟨eo,e⟩:=aH e
 obtain ⟨e1,e⟩:=aH e
 obtain ⟨e2,e⟩:=aH e
 obtain ⟨e3,e4⟩:=aH e
 have O':r.V.toRF.Ok:=eV▸O
 refine l0 O' e1 (congrArg fC.md e2) (congrArg fC.pre e2) (congrArg fC.kt e2) (congrArg fC.t e2) (congrArg fC.q e2) e4 (congrArg fC.ob e2) λ h G=>?_
 rw [qM eV,lr eg e3]
 show codeAny (model r.V.toRF.prog r.V.toRF.w) A _ r.V.toRF.R _
 rw [eV]
 exact x h _ ((l7 eV eo G).pick k sel _ _ (congrArg fC.own e2) (congrArg fC.tl e2) nd hF)
end
variable {c:Code}{body:List Stmt}{env:Env}
theorem Bg:classOwn (.type "list") "__len__"=pure (some (.builtin "list.__len__")):=by kernel_rfl
theorem BU:classOwn (.type "list") "pop"=pure (some (.builtin "list.pop")):=by kernel_rfl
theorem zh:classOwn (.type "list") "__init__"=pure (some (.builtin "list.__init__")):=by kernel_rfl
theorem DP:typeOf (.builtin "list.__len__")=pure (.type "wrapper_descriptor"):=by kernel_rfl
theorem Du:typeOf (.builtin "list.pop")=pure (.type "method_descriptor"):=by kernel_rfl
theorem BI:typeOf (.builtin "list.__init__")=pure (.type "wrapper_descriptor"):=by kernel_rfl
theorem Fv:typeLookup (.type "wrapper_descriptor") "__get__"=pure (some (.builtin "wrapper_descriptor.__get__")):=by rw [typeLookup_type,builtinLookup_eq_fast];kernel_rfl
theorem HW:typeLookup (.type "method_descriptor") "__get__"=pure (some (.builtin "method_descriptor.__get__")):=by rw [typeLookup_type,builtinLookup_eq_fast];kernel_rfl
theorem BX:entryFor table "super.__getattribute__"=some Builtin.«super.__getattribute__»:=entryFor_of_tree (by kernel_rfl)
theorem mi {A:Around}{t:Nat}(name:Str) {a T gt:Value}
  (X:(K0 w).In h) (hso:h.get? so=some { cls:=.type "super",data:=.fields #[.ref 130,.ref p,.ref 130] }) (hp:p≠130)
  (hn:(name==("__class__":Str))=false)
  (h1:classOwn (.type "list") name=pure (some a)) (h2:typeOf a=pure T) (h3:typeLookup T "__get__"=pure (some gt))
  (x:codeAny (model pg w) (A.under (.builtin "super.__getattribute__" ⟨[.ref so,.str name tk],[]⟩)) (.call gt ⟨[a,.ref p,.ref 130],[]⟩) (λ r s'=>match r with|.ok (.ret v)=>R (.ok (.ret v)) s'|.ok _=>False|.error e=>R (.error e) s') ⟨h,g,d,t,os⟩):
  codeAny (model pg w) A (.builtin "super.__getattribute__" ⟨[.ref so,.str name tk],[]⟩) R ⟨h,g,d,t,os⟩:=by
 refine dt BX ?_
 have h130:=X 130 (zS w.params) rfl
 unfold Builtin.«super.__getattribute__»
 have h2':=X 2 (Hf w.params) rfl
 wp_walk
 have e1:((Value.ref p==Value.ref 130)=true)=False:=by simp [hp]
 show codeAny _ _ (Code.call gt ⟨[a,if (Value.ref p==Value.ref 130)=true then Value.none else Value.ref p,Value.ref 130],[]⟩) _ _
 simp only [e1,if_false]
 refine codeAny_mono x ?_
 intro r s' hr
 induction r with
 |error e=>exact hr
 |ok f=>
  induction f with
  |ret v=>
   show wpAny _ _ _ _ _ _
   wp_walk
   exact hr
  |_=>exact hr.elim
noncomputable abbrev ax (dd:Addr) (xs:VA) (n:Nat):Obj:=⟨.ref 130,some dd,.seq xs n,#[]⟩
noncomputable abbrev d8 (hs:Int) (tk0:Tok) (v:Int) (tk1:Tok) (m:Nat):Obj:=⟨.type "dict",none,.dict #[⟨hs,.str "_initial_size" tk0,.int v tk1⟩] m,#[]⟩
noncomputable abbrev ab (xs:VA) (n:Nat):Obj:=⟨.type "list",none,.seq xs n,#[]⟩
noncomputable abbrev ri (a b:Value):Obj:=⟨.type "slice",none,.fields #[a,b,.none],#[]⟩
section
variable {A:Around}{t:Nat}{l sl:Addr}{o:Obj}{items:VA}{n:Nat}{vl:Value}
theorem nc {A:Around}{K:(Value×Value×Value)→Sem β}{Q:β→Shared→Prop}(hos:h.get? sl=some (ri vl vu)) (pl:IsPart vl lo) (pu:IsPart vu hi)
  (x:wpAny (model pg w) A (K (rawPart lo,rawPart hi,rawPart none)) Q E ⟨h,g,d,t,os⟩):
  wpAny (model pg w) A (Builtin.List.listSliceParts (.ref sl)>>=K) Q E ⟨h,g,d,t,os⟩:=by
 rw [listSliceParts_eq]
 refine af (af (wpAny_field hos rfl (x:=.none) rfl (af (wpAny_listPart (k:=none) IsPart.none ?_))))
 rw [if_neg (by exact Bool.false_ne_true)]
 refine af (wpAny_field hos rfl (x:=vl) rfl (af (wpAny_listPart pl ?_)))
 exact af (wpAny_field hos rfl (x:=vu) rfl (af (wpAny_listPart pu (aA x))))
theorem mh (hl:h.get? l=some o) (hd:o.data=.seq items n) (hos:h.get? sl=some (ri vl vu)) (pl:IsPart vl lo) (pu:IsPart vu hi) (hsz:items.size≤sizeLine)
  (zs:VA) (hz:slicePick items lo hi none=zs)
  (x:∀ (a:Addr) (h':Heap),(∀ K H F own old,ag K H h F own old→ag K H h' F ((a,ab zs 0)::own) old)→R (.ok (.ret (.ref a))) ⟨h',g,d,t,os⟩):
  codeAny (model pg w) A (.builtin "list.__getitem__" ⟨[.ref l,.ref sl],[]⟩) R ⟨h,g,d,t,os⟩:=by
 have hTs:(⟨h,g,d,t,os⟩:Shared).TypeIs (.ref sl) "slice":=⟨_,hos,rfl⟩
 refine dt entry_list_getitem ?_
 show wpAny _ _ (Builtin.List.listSubscript? (.ref sl)>>=_) _ _ _
 refine af ?_
 unfold Builtin.List.listSubscript?
 refine af (wpAny_specialOf hTs slice_no_index ?_)
 simp only [Option.isNone_none,if_true]
 refine aA ?_
 show wpAny _ _ (typeOf (.ref sl)>>=_) _ _ _
 refine af (wpAny_typeOf hTs ?_)
 rw [if_neg (by decide)]
 refine nc hos pl pu ?_
 refine af (m:=Builtin.List.listItems (.ref l)) ?_
 unfold Builtin.List.listItems
 refine af (wpAny_seqItems hl hd (aA ?_))
 refine af (wpAny_of_eq (sliceIndices_raw lo hi none items.size (by simp)) ?_)
 subst hz
 exact af (wpAny_newObj_type (aA (x _ _ λ _ _ _ _ _ L=>L.alloc rfl)) (cP (slicePick_size_le items lo hi none) hsz))
theorem lC {rr:Addr}{new:VA}(i:Nat) (hl:h.get? l=some ⟨cc,dx,.seq items n,ss⟩) (hos:h.get? sl=some (ri vl .none)) (pl:IsPart vl lo)
  (hlo:(lo=none∧i=0)∨lo=some (i:Int)) (hi:i≤items.size) (hr:h.get? rr=some (ab new m)) (hne:l≠rr) (hsz:items.size≤1000) (hsz':new.size≤1000) (zs:VA) (hz:(items.toList.take i++new.toList).toArray=zs)
  (x:∀ h' n',h'.get? l=some ⟨cc,dx,.seq zs n',ss⟩→Heap.SameBut l h h'→R (.ok (.ret .none)) ⟨h',g,d,t,os⟩):
  codeAny (model pg w) A (.builtin "list.__setitem__" ⟨[.ref l,.ref sl,.ref rr],[]⟩) R ⟨h,g,d,t,os⟩:=by
 subst hz
 have hTs:(⟨h,g,d,t,os⟩:Shared).TypeIs (.ref sl) "slice":=⟨_,hos,rfl⟩
 have hTr:(⟨h,g,d,t,os⟩:Shared).TypeIs (.ref rr) "list":=⟨_,hr,rfl⟩
 have oW:(1000:Nat)+1000≤sizeLine:=by unfold sizeLine;lia
 have hb:sliceBounds lo none none items.size=((i:Int),(items.size:Int),1):=by
  unfold sliceBounds
  rcases hlo with ⟨rfl,rfl⟩|rfl
  ·rfl
  ·simp;lia
 refine dt entry_list_setitem ?_
 show wpAny _ _ (Builtin.List.listSubscript? (.ref sl)>>=_) _ _ _
 refine af ?_
 unfold Builtin.List.listSubscript?
 refine af (wpAny_specialOf hTs slice_no_index ?_)
 simp only [Option.isNone_none,if_true]
 refine aA ?_
 show wpAny _ _ (typeOf (.ref sl)>>=_) _ _ _
 refine af (wpAny_typeOf hTs ?_)
 rw [if_neg (by decide)]
 refine nc (hi:=none) hos pl IsPart.none ?_
 have hs':Builtin.List.listSameRef (.ref l) (.ref rr)=false:=by simpa [Builtin.List.listSameRef] using hne
 dsimp only
 simp only [hs',Bool.false_eq_true,if_false]
 unfold Builtin.List.listAllItems
 refine af (af (wpAny_typeOf hTr ?_))
 rw [if_pos (by decide)]
 unfold Builtin.List.listItems
 refine af (wpAny_seqItems hr rfl (aA ?_))
 refine af (af (wpAny_seqItems hl rfl (aA ?_)))
 refine af (wpAny_of_eq (sliceIndices_raw lo none none items.size (by simp)) ?_)
 rw [hb]
 dsimp only
 rw [if_pos (by decide)]
 refine af (wpAny_rule ?_)
 have ht:Builtin.List.listTooLong (items.size+new.size)=false:=by
  unfold Builtin.List.listTooLong
  exact decide_eq_false (by lia)
 simp only [ht,Bool.false_eq_true,if_false]
 have e1:(items.extract 0 (i:Int).toNat++new++items.extract (max (i:Int) items.size).toNat items.size)=(items.toList.take i++new.toList).toArray:=by
  have e2:(max (i:Int) items.size).toNat=items.size:=by lia
  rw [e2]
  apply Array.ext'
  simp
 unfold Builtin.List.listUpdate
 refine af (wpAny_updateSeq hl rfl ?_ (by lia) (by rw [e1];simp;lia))
 refine af (wpAny_letGo (aA ?_))
 refine x _ (if (items.toList.take i++new.toList).toArray.size==items.size then n else n+1) ?_ (Heap.SameBut.update ..)
 rw [Heap.get?_update_self _ hl rfl]
 show some _=_
 simp only [Obj.mapSeq,e1]
end
section
variable {A:Around}{t:Nat}{n:Nat}{v:Value}
theorem ve (hl:h.get? a=some ⟨cc,dx,.seq (l++[v]).toArray n,ss⟩) (hsz:l.length≤1000)
  (x:∀ h' n',h'.get? a=some ⟨cc,dx,.seq l.toArray n',ss⟩→Heap.SameBut a h h'→R (.ok (.ret v)) ⟨h',g,d,t,os⟩):
  codeAny (model pg w) A (.builtin "list.pop" ⟨[.ref a],[]⟩) R ⟨h,g,d,t,os⟩:=by
 refine dt (b:=Builtin.«list.pop») (entryFor_of_tree (by kernel_rfl)) ?_
 have e0:Builtin.List.listFitsIndex (-1)=true:=by decide
 have oW:(1001:Nat)≤sizeLine:=by unfold sizeLine;lia
 have e1:(l++[v]).toArray.isEmpty=false:=by simp [Array.isEmpty]
 have e2:((seqIndex? (-1) (l++[v]).toArray.size).bind λ k=>(l++[v]).toArray[k]?.map (k,·))=some (l.length,v):=by
  have q1:seqIndex? (-1) (l++[v]).toArray.size=some l.length:=by
   unfold seqIndex?
   simp only [List.size_toArray,List.length_append,List.length_singleton]
   have:(if (-1:Int) < 0 then -1+((l.length+1:Nat):Int) else -1)=(l.length:Int):=by simp;lia
   rw [this]
   have z:(decide (0≤(l.length:Int))&&decide ((l.length:Int) < ((l.length+1:Nat):Int)))=true:=by simp;lia
   simp only [z,if_true]
   simp
  rw [q1]
  simp
 have e3:(l++[v]).toArray.eraseIdxIfInBounds l.length=l.toArray:=by
  simp [List.eraseIdx_append_of_length_le]
 unfold Builtin.«list.pop»
 refine af (wpAny_of_eq (a:=(Value.ref a,[])) rfl ?_)
 refine af (aA ?_)
 simp only [e0,Bool.not_true,Bool.false_eq_true,if_false]
 unfold Builtin.List.listItems
 refine af (af (wpAny_seqItems hl rfl (aA ?_)))
 simp only [e1,Bool.false_eq_true,if_false,e2]
 unfold Builtin.List.listUpdate
 refine af (wpAny_updateSeq hl rfl ?_ (by simp;lia) (by rw [e3];simp;lia))
 refine aA ?_
 refine x _ (if l.toArray.size==(l++[v]).toArray.size then n else n+1) ?_ (Heap.SameBut.update ..)
 rw [Heap.get?_update_self _ hl rfl]
 show some _=_
 simp only [Obj.mapSeq,e3]
end
set_option backward.match.sparseCases true
section
noncomputable def FB (l:List (Value×Value)):List (Value×Value):=l.map λ p=>(p.2,p.2)
theorem Cl {l:List (Value×Value)}(e:l=FB l):∀ y∈l,y.1=y.2:=λ y hy=>by
 rw [e] at hy
 obtain ⟨p,_,rfl⟩:=aY.mp hy
 rfl
noncomputable def j8 (K:KF) (set:Setting) (own:aq):Nat→List Hn→Sem α→List (Value×Value)→Option (α×List (Value×Value))
 |0,_,_,_=>none
 |n+1,hs,t,eqs=>match t with
  |.pure a=>some (a,eqs)
  |.rule _ k=>j8 K set own n hs (k ()) eqs
  |.at _ k=>j8 K set own n hs (k ()) eqs
  |.point _ k=>j8 K set own n hs (k ()) eqs
  |.ask k=>j8 K set own n hs (k set) eqs
  |.load a _ k=>match hs with
   |[]=>none
   |h::hs=>match h with
    |.k=>match K a with
     |some o=>j8 K set own n hs (k o) eqs
     |none=>none
    |.w j=>match own[j]? with
     |some (a',o)=>j8 K set own n hs (k o) ((.ref a,.ref a')::eqs)
     |none=>none
    |_=>none
  |_=>none
theorem eR {A:Around}{Q:α→Shared→Prop}{own:aq}{s:Shared}(kin:K.In s.heap) (hown:∀ p∈own,s.heap.get? p.1=some p.2):
  ∀ (n:Nat) (hs:List Hn) (t:Sem α) (eqs:List (Value×Value)) (v:α) (eqs':List (Value×Value)),j8 K ⟨prog,w.params⟩ own n hs t eqs=some (v,eqs')→(∀ y∈eqs',y.1=y.2)→Q v s→(∀ y∈eqs,y∈eqs')∧wpAny (model prog w) A t Q E s:=by
 intro n
 induction n with
 |zero=>intro hs t eqs v eqs' e;cases e
 |succ n ih=>
  intro hs t eqs v eqs' e hq hv
  induction t with
  |pure a=>
   have e2:=bo e
   rw [←show a=v from congrArg (·.1) e2] at hv
   rw [←show eqs=eqs' from congrArg (·.2) e2]
   exact ⟨λ _ h=>h,aA hv⟩
  |rule tag k=>have z:=ih hs (k ()) eqs v eqs' e hq hv;exact ⟨z.1,x_rule z.2⟩
  |«at» q k=>have z:=ih hs (k ()) eqs v eqs' e hq hv;exact ⟨z.1,x_at z.2⟩
  |point l k=>have z:=ih hs (k ()) eqs v eqs' e hq hv;exact ⟨z.1,x_point z.2⟩
  |ask k=>have z:=ih hs (k ⟨prog,w.params⟩) eqs v eqs' e hq hv;exact ⟨z.1,x_ask z.2⟩
  |load a q k=>
   induction hs with
   |nil=>cases e
   |cons h hs=>
    induction h with
    |k=>
     have e:(match K a with
      |some o=>j8 K ⟨prog,w.params⟩ own n hs (k o) eqs
      |none=>none)=some (v,eqs'):=e
     rcases hK:K a with _|o
     ·rw [hK] at e;cases e
     ·rw [hK] at e
      have z:=ih hs (k o) eqs v eqs' e hq hv
      exact ⟨z.1,x_load (kin a o hK) z.2⟩
    |w j=>
     have e:(match own[j]? with
      |some (a',o)=>j8 K ⟨prog,w.params⟩ own n hs (k o) ((.ref a,.ref a')::eqs)
      |none=>none)=some (v,eqs'):=e
     rcases hj:own[j]? with _|y
     ·rw [hj] at e;cases e
     ·rw [hj] at e
      have z:=ih hs (k y.2) ((.ref a,.ref y.1)::eqs) v eqs' e hq hv
      refine ⟨λ y hy=>z.1 y (.tail _ hy),x_load (o:=y.2) ?_ z.2⟩
      rw [bz (hq _ (z.1 _ (.head _)))]
      exact hown _ (bQ hj)
    |_=>cases e
  |_=>cases e
theorem D2 {A:Around}{t:Sem α}{Q:α→Shared→Prop}{s:Shared}(h:_root_.PySem.wpAt (model prog w) (A.under c) c t Q E s):wpOwn (model prog w) A c t Q E s:=
 λ Γ p hc hΓ=>h Γ p hc (hc▸hΓ.in)
theorem dZ (x:Expr) (pos:Pos) (env:Env):exec (.Return (some x) pos) env=(standAt pos>>=λ _=>eval x env>>=λ v=>pure (.ret v)):=by rfl
theorem eM (o:Expr) (name:Str) (apos pos:Pos) (args:List Expr) (env:Env):eval (.Call (.Attribute o name apos) args [] pos) env=(attributeBase o name env (eval o env)>>=λ ov=>standAt apos.atName>>=λ _=>methodCall o name apos pos env ov (args.length+0) (backTo pos (starEach args env)) (backToKw pos (keywordEach [] env))):=by rfl
theorem bf (st:Stmt) (rest:List Stmt) (env:Env):execs (st::rest) env=(exec st env>>=λ f=>match f with|.next=>execs rest env|f=>pure f):=by rfl
end
set_option backward.match.sparseCases false
section
open PySem.W.ZFast
section
variable {A:Around}
theorem Sm.eq {t t':Sem α}(e:t=t'):Sm M A c t t':=e▸Sm.refl t
theorem Sm.bind' {x x':Sem α}{f f':α→Sem β}(h:Sm M A c x x') (k:∀ a,Sm M A c (f a) (f' a)):Sm M A c (x>>=f) (x'>>=f'):=(Sm.bind_l h).trans (Sm.bind_r k)
theorem Sm.bindE {x x':Sem α}{f f':α→Sem β}(e:x=x') (k:∀ a,Sm M A c (f a) (f' a)):Sm M A c (x>>=f) (x'>>=f'):=Sm.bind' (Sm.eq e) k
theorem Sm.wakeQ (hd:(A.under c).depth < recursionLimit):Sm M A c X.wakeQ jM:=by
 rw [←X.wakeQ_eq];exact Sm.wake hd
noncomputable def Dh (a1 a2:Sem β) (f:GenStatus→Sem β) (b:GenStatus):Sem β:=match b with
 |.fresh=>a1
 |.suspended=>a2
 |b=>f b
theorem Sm.bindSt {x:Sem GenStatus}{f:GenStatus→Sem β}{a1 a2:Sem β}(h1:Sm M A c (f .fresh) a1) (h2:Sm M A c (f .suspended) a2):Sm M A c (x>>=f) (x>>=λ b=>Dh a1 a2 f b):=
 Sm.bind_r λ b=>by induction b<;>first|exact h1|exact h2|exact Sm.refl _
noncomputable def zb (x:Sem α) (f:α→Sem β):Sem β:=@Bind.bind Sem (@Monad.toBind Sem zw12456147031677567982) α β x f
theorem di (x:Sem α) (f:α→Sem β):zb x f=(x>>=f):=by unfold zb;rw [←ze12456147031677567982]
theorem Sm.zbind_r {x:Sem α}{f f':α→Sem β}(h:∀ a,Sm M A c (f a) (f' a)):Sm M A c (@Bind.bind Sem (@Monad.toBind Sem zw12456147031677567982) α β x f) (zb x f'):=by
 show Sm M A c (zb x f) _
 rw [di,di];exact Sm.bind_r h
theorem Sm.zbind_l {x x':Sem α}{f:α→Sem β}(h:Sm M A c x x'):Sm M A c (@Bind.bind Sem (@Monad.toBind Sem zw12456147031677567982) α β x f) (zb x' f):=by
 show Sm M A c (zb x f) _
 rw [di,di];exact Sm.bind_l h
theorem Sm.zbindSt {x:Sem GenStatus}{f:GenStatus→Sem β}{a1 a2:Sem β}(h1:Sm M A c (f .fresh) a1) (h2:Sm M A c (f .suspended) a2):Sm M A c (@Bind.bind Sem (@Monad.toBind Sem zw12456147031677567982) GenStatus β x f) (zb x λ b=>Dh a1 a2 f b):=by
 show Sm M A c (zb x f) _
 rw [di,di];exact Sm.bindSt h1 h2
theorem Sm.callWith1 {g:Sem Value}{f:Value}(h:Sm M A c g g'):Sm M A c (callWith pos f first [(false,g)] []) (zw8289420714989923916 pos f first [(false,g')] []):=by
 rw [←ze8289420714989923916]
 unfold callWith
 refine Sm.bind_l (Sm.holding ?_)
 unfold evalArgs
 refine Sm.bind_l (Sm.bind_l ?_)
 exact h
theorem Sm.callWith2 {g x x':Sem Value}{f:Value}(h:Sm M A c g g') (e:x=x'):Sm M A c (callWith pos f first [(false,g),(false,x)] []) (zw8289420714989923916 pos f first [(false,g'),(false,x')] []):=by
 subst e
 rw [←ze8289420714989923916]
 unfold callWith
 refine Sm.bind_l (Sm.holding ?_)
 unfold evalArgs
 refine Sm.bind_l (Sm.bind_l ?_)
 exact h
end
noncomputable def Da (g:Value) (r:Resume):{ t:Sem PySem.Fin // ∀ (M:Model) (A:Around) (c:Code),(A.under c).depth < recursionLimit→Sm M A c (zw9054249554998114525 g r) t }:=by
 apply Subtype.mk
 intro M A c hd
 delta zw9054249554998114525
 exact Sm.zbind_r λ n=>Sm.zbindSt (by exact Sm.zbind_l (Sm.wakeQ hd)) (by exact Sm.zbind_l (Sm.wakeQ hd))
noncomputable def ny (el:PySem.Expr) (gens:List Comprehension) (scope:Scope) (pos:Pos) (env:Env):{ t:Sem Value // ∀ (M:Model) (A:Around) (c:Code),(A.under c).depth < recursionLimit→Sm M A c (eval (.GeneratorExp el gens scope pos) env) t }:=
 ⟨_,λ M A c hd=>Sm.bindE (congrFun (congrFun ze18100340678103251363 gens) env) λ x=>Sm.bind_r λ _=>
  Sm.bindE (congrFun (congrFun (congrFun (congrFun ze11392484809677674534 _) _) _) _) λ x=>
  Sm.bindE (show holding [x] (if firstAsync gens then asyncIter x else pyIter x)=holding [x] (if firstAsync gens then asyncIter x else zw8711993805878244202 x) by rw [ze8711993805878244202]) λ it=>
  Sm.bind' (Sm.enter hd) λ _=>Sm.bindE (congrFun (congrFun ze14069538253670106520 _) _) λ cl=>
  Sm.bindE (congrFun (congrFun (congrFun (congrFun ze9492743126541576920 _) _) _) _) λ co=>
  Sm.bindE (congrFun (congrFun ze6600643334278800223 _) _) λ bi=>Sm.bindE (congrFun (congrFun (congrFun (congrFun (congrFun (congrFun (congrFun (congrFun (congrFun ze11113344188204177931 _) _) _) _) _) _) _) _) _) λ cenv=>
  Sm.eq (show (if scope.isCoroutine then newAsyncGenerator else newGenerator) _ _ _=(if scope.isCoroutine then newAsyncGenerator else zw2426001476595277715) _ _ _ by rw [ze2426001476595277715])⟩
end
set_option backward.match.sparseCases true
section
open PySem.W.ZFast
theorem Sm.room {A:Around}{f:Unit→Sem α}(hu:(A.under c).units < cLine):Sm M A c (cRoomFor what vs>>=f) (f ()):=λ Γ p s Q E hc hΓ z=>by
 rw [Sem.wp_bind']
 subst hc
 exact Sem.wp_cRoomFor what vs (Nat.lt_of_le_of_lt hΓ.in.2.2.2.2 hu) z
section
variable {A:Around}
theorem Sm.zroom {f:Unit→Sem α}(hu:(A.under c).units < cLine):Sm M A c (@Bind.bind Sem (@Monad.toBind Sem zw12456147031677567982) Unit α (zw13383273872528276517 what vs) f) (f ()):=by
 show Sm M A c (zb (zw13383273872528276517 what vs) f) _
 rw [di,←ze13383273872528276517]
 exact Sm.room hu
theorem Sm.zholding {x x':Sem α}(h:Sm M A c x x'):Sm M A c (zw17359229931016689406 vs x) (zw17359229931016689406 vs x'):=by
 rw [←ze17359229931016689406];exact Sm.holding h
end
noncomputable def tM (op:CmpOp) (a b:Value):{ t:Sem Value // ∀ (M:Model) (A:Around) (c:Code),(A.under c).units < cLine→Sm M A c (richCompare op a b) t }:=by
 apply Subtype.mk
 intro M A c hu
 rw [ze9423741818375054981]
 delta zw9423741818375054981
 exact Sm.zholding (Sm.zroom hu)
noncomputable abbrev fY:PySem.Expr→Env→Sem Value:=zw14044960220447912780
noncomputable abbrev n8:List Stmt→Env→Sem Flow:=zw12563942051412417395
noncomputable def EO (op:CmpOp) (a b:Value):Sem Value:=match op with
 |.Eq=>(tM .Eq a b).1
 |.NotEq=>(tM .NotEq a b).1
 |op=>zw12886488535604756494 op a b
section
variable {A:Around}(hu:(A.under c).units < cLine)
include hu
theorem tV (op:CmpOp) (a b:Value):Sm M A c (compareOp op a b) (EO op a b):=by
 induction op with
 |Eq=>exact (tM .Eq a b).2 M A c hu
 |NotEq=>exact (tM .NotEq a b).2 M A c hu
 |_=>exact Sm.eq (by rw [ze12886488535604756494];rfl)
end
noncomputable def tX (pos:Pos) (a:Value) (op:CmpOp) (r:Sem Value):Sem Bool:=
 zb (zw17359229931016689406 [a] r) λ b=>zb (standAt pos) λ _=>zb (zb (zw17359229931016689406 [a,b] (EO op a b)) λ v=>zb (zw16427652380498605876 [a,b] [v]) λ _=>Sem.pure v) λ v=>zw17359229931016689406 [v] (zw15245631507167962100 v)
noncomputable def yn (pos:Pos) (a:Value) (op:CmpOp) (r:Sem Value):Sem Value:=
 zb (zw17359229931016689406 [a] r) λ b=>zb (standAt pos) λ _=>zb (zw17359229931016689406 [a,b] (EO op a b)) λ v=>zb (zw16427652380498605876 [a,b] [v]) λ _=>Sem.pure v
noncomputable def An (T:PySem.Expr→Sem Bool):List PySem.Expr→Sem Bool
 |[]=>Sem.pure false
 |x::l=>zb (T x) λ t=>match t with
  |true=>Sem.pure true
  |false=>An T l
section
variable {A:Around}(hu:(A.under c).units < cLine)
include hu
theorem pO {a:Value}{r:Sem Value}(hr:r=r'):Sm M A c (testChain pos a [op] [r]) (tX pos a op r'):=by
 subst hr
 unfold tX
 simp only [di]
 rw [←ze17359229931016689406,←ze16427652380498605876,←ze15245631507167962100]
 show Sm M A c (holding [a] r>>=λ rv=>standAt pos>>=λ _=>operate [a,rv] (compareOp op a rv)>>=λ v=>holding [v] (truthy v)) _
 refine Sm.bind_r λ b=>Sm.bind_r λ _=>Sm.bind_l ?_
 unfold operate
 exact Sm.bind_l (Sm.holding (tV hu op a b))
theorem yS {a:Value}{r:Sem Value}(hr:r=r'):Sm M A c (compareChain pos a [op] [r]) (yn pos a op r'):=by
 subst hr
 unfold yn
 simp only [di]
 rw [←ze17359229931016689406,←ze16427652380498605876]
 show Sm M A c (holding [a] r>>=λ rv=>standAt pos>>=λ _=>operate [a,rv] (compareOp op a rv)) _
 refine Sm.bind_r λ b=>Sm.bind_r λ _=>?_
 unfold operate
 exact Sm.bind_l (Sm.holding (tV hu op a b))
omit hu in
theorem uB {T:PySem.Expr→Sem Bool}(hT:∀ x,Sm M A c (isTrue x env (eval x env)) (T x)):∀ es:List PySem.Expr,Sm M A c (allTrue .Or es env) (An T es)
 |[]=>Sm.eq rfl
 |x::l=>by
  unfold An
  rw [di]
  show Sm M A c (isTrue x env (eval x env)>>=λ t=>match BoolOp.Or,t with|.And,false=>pure false|.Or,true=>pure true|_,_=>allTrue .Or l env) _
  refine Sm.bind' (hT x) λ t=>?_
  cases t
  ·exact uB hT l
  ·exact Sm.refl _
end
noncomputable abbrev Bv (x:Sem α):Type:={ t:Sem α // ∀ (M:Model) (A:Around) (c:Code),(A.under c).units < cLine→Sm M A c x t }
noncomputable def si:(n:Nat)→(e:PySem.Expr)→(env:Env)→Bv (isTrue e env (eval e env))
 |0,e,env=>⟨zw15418851999007992765 e env (fY e env),λ _ _ _ _=>Sm.eq (by rw [ze15418851999007992765,ze14044960220447912780])⟩
 |n+1,.Compare l [.Eq] [r] pos,env=>⟨zb (fY l env) λ a=>tX pos a .Eq (zw10513115210890433525 .Eq r (fY r env)),λ M A c hu=>by
  rw [di]
  refine Sm.trans (t':=(eval l env>>=λ a=>testChain pos a [.Eq] [markedBehindIn .Eq r (eval r env)])) (Sm.eq (by rfl)) ?_
  exact Sm.bindE (by rw [ze14044960220447912780]) λ a=>pO hu (by rw [ze14044960220447912780,ze10513115210890433525])⟩
 |n+1,.Compare l [.NotEq] [r] pos,env=>⟨zb (fY l env) λ a=>tX pos a .NotEq (zw10513115210890433525 .NotEq r (fY r env)),λ M A c hu=>by
  rw [di]
  refine Sm.trans (t':=(eval l env>>=λ a=>testChain pos a [.NotEq] [markedBehindIn .NotEq r (eval r env)])) (Sm.eq (by rfl)) ?_
  exact Sm.bindE (by rw [ze14044960220447912780]) λ a=>pO hu (by rw [ze14044960220447912780,ze10513115210890433525])⟩
 |n+1,.BoolOp .Or es _,env=>⟨An (λ x=>(si n x env).1) es,λ M A c hu=>(Sm.eq rfl:Sm M A c _ (allTrue .Or es env)).trans (uB (λ x=>(si n x env).2 M A c hu) es)⟩
 |n+1,e,env=>⟨zw15418851999007992765 e env (fY e env),λ _ _ _ _=>Sm.eq (by rw [ze15418851999007992765,ze14044960220447912780])⟩
noncomputable def G2 (n:Nat) (e:PySem.Expr) (env:Env):Sem Bool:=(si n e env).1
theorem lI {A:Around}(hu:(A.under c).units < cLine) (n:Nat) (e:PySem.Expr) (env:Env):Sm M A c (isTrue e env (eval e env)) (G2 n e env):=(si n e env).2 M A c hu
noncomputable def sC:(n:Nat)→(e:PySem.Expr)→(env:Env)→Bv (eval e env)
 |0,e,env=>⟨fY e env,λ _ _ _ _=>Sm.eq (by rw [ze14044960220447912780])⟩
 |n+1,.Compare l [.Eq] [r] pos,env=>⟨zb (fY l env) λ a=>yn pos a .Eq (zw10513115210890433525 .Eq r (fY r env)),λ M A c hu=>by
  rw [di]
  refine Sm.trans (t':=(eval l env>>=λ a=>compareChain pos a [.Eq] [markedBehindIn .Eq r (eval r env)])) (Sm.eq (by rfl)) ?_
  exact Sm.bindE (by rw [ze14044960220447912780]) λ a=>yS hu (by rw [ze14044960220447912780,ze10513115210890433525])⟩
 |n+1,.IfExp test body orelse _,env=>⟨zb (G2 3 test env) λ t=>match t with
  |true=>(sC n body env).1
  |false=>(sC n orelse env).1,λ M A c hu=>by
  rw [di]
  refine Sm.trans (t':=(isTrue test env (eval test env)>>=λ t=>if t then eval body env else eval orelse env)) (Sm.eq (by rfl)) ?_
  refine Sm.bind' ((si 3 test env).2 M A c hu) λ t=>?_
  induction t
  ·exact (sC n orelse env).2 M A c hu
  ·exact (sC n body env).2 M A c hu⟩
 |n+1,e,env=>⟨fY e env,λ _ _ _ _=>Sm.eq (by rw [ze14044960220447912780])⟩
noncomputable def Im (n:Nat) (e:PySem.Expr) (env:Env):Sem Value:=(sC n e env).1
theorem iL (st:Stmt) (env:Env):execs [st] env=exec st env:=by
 rw [bf]
 conv=>rhs;rw [←bind_pure (exec st env)]
 congr 1;funext f;induction f<;>rfl
noncomputable def FM:(st:Stmt)→(env:Env)→Bv (exec st env)
 |.If test body orelse pos,env=>⟨zb (standAt pos) λ _=>zb (G2 3 test env) λ t=>match t with
  |true=>n8 body env
  |false=>n8 orelse env,λ M A c hu=>by
  simp only [di]
  refine Sm.trans (t':=(standAt pos>>=λ _=>isTrue test env (eval test env)>>=λ t=>if t then execs body env else execs orelse env)) (Sm.eq (by rfl)) ?_
  refine Sm.bind_r λ _=>Sm.bind' ((si 3 test env).2 M A c hu) λ t=>?_
  induction t
  ·exact Sm.eq (by rw [ze12563942051412417395];rfl)
  ·exact Sm.eq (by rw [ze12563942051412417395];rfl)⟩
 |.Return (some v) pos,env=>⟨zb (standAt pos) λ _=>zb (Im 2 v env) λ x=>Sem.pure (.ret x),λ M A c hu=>by
  simp only [di]
  rw [dZ]
  exact Sm.bind_r λ _=>Sm.bind_l ((sC 2 v env).2 M A c hu)⟩
 |.Assign [.Name id npos] (.IfExp test body orelse ipos) pos,env=>⟨zb (standAt pos) λ _=>zb (Im 2 (.IfExp test body orelse ipos) env) λ v=>zw2470068587113613483 env v none ((zw15628205474173192105 [.Name id npos] env).map (·.2)),λ M A c hu=>by
  simp only [di]
  have e:swappedStores [.Name id npos] (.IfExp test body orelse ipos) env=pure none:=rfl
  have e2:swapsWithSole [.Name id npos] (.IfExp test body orelse ipos) pos.line env=pure false:=rfl
  refine Sm.trans (t':=standAt pos>>=λ _=>swapsWithSole [.Name id npos] (.IfExp test body orelse ipos) pos.line env>>=λ q=>if q then (do
   evalThenUse (.IfExp test body orelse ipos) env λ v=>assignAll v ((assignEach [.Name id npos] env).map (·.2))
   pure .next) else eval (.IfExp test body orelse ipos) env>>=λ v=>swappedStores [.Name id npos] (.IfExp test body orelse ipos) env>>=λ sw=>assignStores env v sw ((assignEach [.Name id npos] env).map (·.2))) (Sm.eq (by rfl)) ?_
  rw [e,e2]
  refine Sm.bind_r λ _=>Sm.bind' ((sC 2 _ env).2 M A c hu) λ v=>Sm.eq ?_
  rw [ze2470068587113613483,ze15628205474173192105];rfl⟩
 |st,env=>⟨n8 [st] env,λ _ _ _ _=>Sm.eq (by show exec st env=zw12563942051412417395 [st] env;rw [←ze12563942051412417395,iL])⟩
noncomputable def HL (st:Stmt) (env:Env):Sem Flow:=(FM st env).1
noncomputable def mT:List Stmt→Env→Sem Flow
 |[],env=>n8 [] env
 |st::l,env=>zb (HL st env) λ f=>match f with
  |.next=>mT l env
  |f=>Sem.pure f
section
variable {A:Around}(hu:(A.under c).units < cLine)
include hu
theorem z7 (st:Stmt) (env:Env):Sm M A c (exec st env) (HL st env):=(FM st env).2 M A c hu
theorem iS:∀ (l:List Stmt) (env:Env),Sm M A c (execs l env) (mT l env)
 |[],env=>Sm.eq (by unfold mT;rw [ze12563942051412417395])
 |st::l,env=>by
  unfold mT
  rw [di,bf]
  refine Sm.bind' (z7 hu st env) λ f=>?_
  induction f<;>first|exact iS l env|exact Sm.refl _
end
noncomputable def HZ (f:Option α→Sem β) (g:α→Sem β):Option α→Sem β
 |none=>f none
 |some a=>g a
theorem Sm.bindOpt {A:Around}{x:Sem (Option α)}{f:Option α→Sem β}{g:α→Sem β}(h:∀ a,Sm M A c (f (some a)) (g a)):Sm M A c (@Bind.bind Sem (@Monad.toBind Sem zw12456147031677567982) _ β x f) (zb x (HZ f g)):=by
 show Sm M A c (zb x f) _
 rw [di,di]
 exact Sm.bind_r λ o=>by induction o<;>first|exact h _|exact Sm.refl _
theorem Ba (target:PySem.Expr) (it:Value) (body orelse:List Stmt) (env:Env):denote table (.forLoop target it body orelse env)=(zw15207555903498437823 target it body orelse env).onRaise (λ x=>noteFrame x env>>=λ _=>theTreesLotGoes x):=by
 rw [←ze15207555903498437823];rfl
noncomputable def yQ (target:PySem.Expr) (it:Value) (body orelse:List Stmt) (env:Env):{ t:Sem PySem.Fin // ∀ (M:Model) (A:Around) (c:Code),(A.under c).units < cLine→Sm M A c (denote table (.forLoop target it body orelse env)) t }:=by
 apply Subtype.mk
 intro M A c hu
 rw [Ba]
 delta zw15207555903498437823
 exact Sm.onRaise (Sm.zbind_r λ _=>Sm.bindOpt λ v=>Sm.zbind_r λ _=>Sm.zbind_r λ _=>Sm.zbind_l ((Sm.eq (by show zw12563942051412417395 body env=execs body env;rw [←ze12563942051412417395])).trans (iS hu body env)))
noncomputable def ET (env:Env) (t:Sem Flow):Sem PySem.Fin:=Sem.point [] λ _=>zb (t.onRaise (leaving env)) λ fl=>match fl with|.ret v=>PySem.ret v|_=>PySem.ret .none
theorem Ci {A:Around}(hu:(A.under c).units < cLine) (body:List Stmt) (env:Env):Sm M A c (denote table (.func body env)) (ET env (mT body env)):=by
 unfold ET
 rw [di]
 exact Sm.bind_r (x:=point) λ _=>Sm.bind_l (Sm.onRaise (iS hu body env))
set_option backward.match.sparseCases false
end
set_option backward.match.sparseCases true
section
open PySem.W.ZFast
noncomputable def C5 (fn:Str) (fp:Pos) (el:PySem.Expr) (gens:List Comprehension) (sc:Scope) (gp:Pos) (v:PySem.Expr) (at':Str) (ap p:Pos) (env:Env):Sem Value:=
 zw14044960220447912780 (.Name fn fp) env>>=λ f=>zw8289420714989923916 p f [] [(false,(ny el gens sc gp env).1),(false,zw14044960220447912780 (.Attribute v at' ap) env)] []
noncomputable def Ad (o:PySem.Expr) (name:Str) (apos:Pos) (el:PySem.Expr) (gens:List Comprehension) (sc:Scope) (gp p:Pos) (env:Env):Sem Value:=
 zw15487144857313948548 o name env (zw14044960220447912780 o env)>>=λ ov=>standAt apos.atName>>=λ _=>
  zw17359229931016689406 [ov] (zw11328156115524847652 (zw17856382988213008342 1 [(false,(ny el gens sc gp env).1)] []) o env ov name)>>=λ q=>zw6137100228056946695 (zw17856382988213008342 1 [(false,(ny el gens sc gp env).1)] []) o env apos p>>=λ cp=>zw8289420714989923916 cp q.1 q.2 [(false,(ny el gens sc gp env).1)] []
noncomputable def DA (rp:Pos) (env:Env) (t:Sem Value):Sem PySem.Fin:=Sem.point [] λ _=>((standAt rp>>=λ _=>t>>=λ v=>Sem.pure (Flow.ret v))>>=λ f=>match f with|.next=>Sem.pure Flow.next|f=>Sem.pure f).onRaise (leaving env)>>=λ fl=>match fl with|.ret v=>PySem.ret v|_=>PySem.ret .none
section
variable {A:Around}
theorem Sm.methodCall1 {o:PySem.Expr}{ov:Value}{n:Nat}{g:Sem Value}(h:Sm M A c g g'):Sm M A c (methodCall o name apos pos env ov n [(false,g)] [])
  (zw17359229931016689406 [ov] (zw11328156115524847652 (zw17856382988213008342 n [(false,g')] []) o env ov name)>>=λ p=>zw6137100228056946695 (zw17856382988213008342 n [(false,g')] []) o env apos pos>>=λ cp=>zw8289420714989923916 cp p.1 p.2 [(false,g')] []):=by
 unfold methodCall
 refine Sm.bindE ?_ λ p=>Sm.bindE ?_ λ cp=>Sm.callWith1 h
 ·rw [←ze17359229931016689406,←ze11328156115524847652,←ze17856382988213008342];rfl
 ·rw [←ze6137100228056946695,←ze17856382988213008342];rfl
theorem Sm.evalCall2 {fn:Str}{fp:Pos}{gens:List Comprehension}{v:PySem.Expr}{at':Str}{ap p:Pos}(hd:(A.under c).depth < recursionLimit):
  Sm M A c (eval (.Call (.Name fn fp) [.GeneratorExp el gens sc gp,.Attribute v at' ap] [] p) env)
   (C5 fn fp el gens sc gp v at' ap p env):=by
 refine Sm.trans (t':=eval (.Name fn fp) env>>=λ f=>callWith p f [] [(false,eval (.GeneratorExp el gens sc gp) env),(false,eval (.Attribute v at' ap) env)] []) (Sm.eq rfl) ?_
 refine Sm.bindE ?_ λ f=>Sm.callWith2 ((ny el gens sc gp env).2 M A c hd) ?_
 ·rw [ze14044960220447912780]
 ·rw [ze14044960220447912780]
theorem Sm.evalMCall1 {o:PySem.Expr}{gens:List Comprehension}{p:Pos}(hd:(A.under c).depth < recursionLimit):
  Sm M A c (eval (.Call (.Attribute o name apos) [.GeneratorExp el gens sc gp] [] p) env)
   (Ad o name apos el gens sc gp p env):=by
 refine (Sm.eq (eM _ _ _ _ _ _)).trans ?_
 refine Sm.bindE ?_ λ ov=>Sm.bind_r λ _=>Sm.methodCall1 ((ny el gens sc gp env).2 M A c hd)
 rw [ze15487144857313948548,ze14044960220447912780]
theorem Sm.ret {e:PySem.Expr}{rp:Pos}{t:Sem Value}(h:Sm M A c (eval e env) t):
  Sm M A c (denote table (.func [.Return (some e) rp] env)) (DA rp env t):=by
 have e1:Sm M A c (execs [.Return (some e) rp] env) ((standAt rp>>=λ _=>t>>=λ v=>Sem.pure (Flow.ret v))>>=λ f=>match f with|.next=>Sem.pure Flow.next|f=>Sem.pure f):=
  (Sm.eq (bf _ _ _)).trans (Sm.bind_l ((Sm.eq (dZ _ _ _)).trans (Sm.bind_r λ _=>Sm.bind_l h)))
 exact Sm.bind_r (x:=point) λ _=>Sm.bind_l (Sm.onRaise e1)
end
theorem zx:entryFor table "generator.__next__"=some Builtin.«generator.__next__»:=entryFor_of_tree (by kernel_rfl)
theorem FQ (id:String) (a:Args):denote table (.builtin id a)=(match entryFor table id with|some b=>b a|none=>unsupported ((withoutEnding? id "#data").getD id)):=rfl
theorem yi (g:Value):denote table (.builtin "generator.__next__" ⟨[g],[]⟩)=Builtin.Generator.genWake g (.send .none):=by
 rw [FQ,zx];rfl
noncomputable def HS (e:PySem.Expr) (it:Addr) (acc:Value) (env:Env):Sem PySem.Fin:=.load it none λ o=>match o.cls with
 |.type id=>match (if id="range_iterator" then true else if id="list_iterator" then true else false) with
  |true=>.pure (.again (.compLoop e 0 (.ref it) acc env))
  |false=>unsupported "another walk"
 |_=>unsupported "another walk"
theorem kD {A:Around}{id:String}{s:Shared}{Q:Value→Shared→Prop}(hT:s.TypeIs (.ref it) id) (h:id="range_iterator"∨id="list_iterator") (hq:Q (.ref it) s):wpAny (model pg w) A (pyIter (.ref it)) Q E s:=by
 rcases h with rfl|rfl
 ·refine wpAny_pyIter_slot hT F.slot_range_iterator_iter (wpAny_call_entry F.slot_range_iterator_iter hT F.entry_range_iterator_iter ?_ (F.args_range_iterator_iter_1 _))
  show wpAny _ _ (ret (.ref it)) _ _ s
  exact aA ⟨_,rfl,"range_iterator",_,hT,F.slot_range_iterator_next.lookup,hq⟩
 ·refine wpAny_pyIter_slot hT slot_listiter_iter (wpAny_call_entry slot_listiter_iter hT entry_listiter_iter ?_ (args_listiter_iter _))
  show wpAny _ _ (ret (.ref it)) _ _ _
  exact aA ⟨_,rfl,"list_iterator",_,hT,slot_listiter_next.lookup,hq⟩
theorem EA {A:Around}{rest:List Comprehension}{id:String}{s:Shared}{Q:PySem.Fin→Shared→Prop}(hT:s.TypeIs (.ref it) id) (h:id="range_iterator"∨id="list_iterator")
  (hq:Q (.again (.compLoop (.ListComp elt (⟨target,iter,ifs,0⟩::rest) sc pos) 0 (.ref it) acc env)) s):wpAny (model pg w) A (compStart (.ListComp elt (⟨target,iter,ifs,0⟩::rest) sc pos) 0 (.ref it) acc env) Q E s:=by
 unfold compStart
 show wpAny _ _ (ask>>=_) _ _ s
 refine af (wpAny_askSetting (wpAny_ite ?_))
 split
 ·first
   |exact af (aA (aA hq))
   |exact aA hq
 ·first
   |exact af (wpAny_rule (af (wpAny_standAt (af (kD hT h (aA hq))))))
   |(refine af (wpAny_rule ?_);show wpAny _ _ (standAt iter.pos>>=_) _ _ s;exact af (wpAny_standAt (af (kD hT h (aA hq)))))
theorem Gi (w:World) (A:Around) (elt target iter:PySem.Expr) (ifs:List PySem.Expr) (rest:List Comprehension) (sc:Scope) (pos:Pos) (it:Addr) (acc:Value) (env:Env):
  Fl (model pg w) A (.compStart (.ListComp elt (⟨target,iter,ifs,0⟩::rest) sc pos) 0 (.ref it) acc env) (denote table (.compStart (.ListComp elt (⟨target,iter,ifs,0⟩::rest) sc pos) 0 (.ref it) acc env)) (HS (.ListComp elt (⟨target,iter,ifs,0⟩::rest) sc pos) it acc env):=by
 intro s Q E x Γ p hc hΓ
 have z:=x Γ p hc hΓ
 unfold HS at z
 rw [Sem.wp_load] at z
 obtain ⟨o,ho,z⟩:=z
 split at z
 ·rename_i id hcl
  split at z
  ·rename_i hid
   have hd:id="range_iterator"∨id="list_iterator":=by
    by_cases h1:id="range_iterator"
    ·exact .inl h1
    ·by_cases h2:id="list_iterator"
     ·exact .inr h2
     ·rw [if_neg h1,if_neg h2] at hid;cases hid
   have hq:Q (.again (.compLoop (.ListComp elt (⟨target,iter,ifs,0⟩::rest) sc pos) 0 (.ref it) acc env)) s:=z
   have y:=EA (w:=w) (A:=A.under (.compStart (.ListComp elt (⟨target,iter,ifs,0⟩::rest) sc pos) 0 (.ref it) acc env)) (E:=λ _ _=>False) (s:=s) (it:=it) ⟨o,ho,hcl⟩ hd hq
   show Sem.wp _ Γ ((compStart (.ListComp elt (⟨target,iter,ifs,0⟩::rest) sc pos) 0 (.ref it) acc env).onRaise (λ x=>do noteFrame x env;standAt theWindowsPlace)) _ _ p s
   rw [Sem.wp_onRaise]
   exact Sem.wp_mono _ Γ _ (λ a p' s' h'=>h') (λ e p' s' h'=>(h':False).elim) p s (y Γ p (hc▸hΓ.in))
  ·exact (show False from z).elim
 ·exact (show False from z).elim
noncomputable abbrev qe (c:Code):Type:={ o:Option (Sem PySem.Fin) // ∀ t,o=some t→∀ (w:World) (A:Around),(A.under c).depth < recursionLimit→(A.under c).units < cLine→Fl (model pg w) A c (denote table c) t }
theorem gA (h:∀ (w:World) (A:Around),(A.under c).depth < recursionLimit→(A.under c).units < cLine→Fl (model pg w) A c (denote table c) t):∀ t',some t=some t'→∀ (w:World) (A:Around),(A.under c).depth < recursionLimit→(A.under c).units < cLine→Fl (model pg w) A c (denote table c) t':=λ t' e=>by
 rw [←bo e];exact h
noncomputable def pj (c:Code):qe c:=⟨none,λ _ h=>nomatch h⟩
noncomputable def Hr:(c:Code)→qe c
 |.builtin id ⟨[g],[]⟩=>if e:id="generator.__next__" then ⟨some (Da g (.send .none)).1,gA λ w A hd hu=>by
  subst e
  have e2:denote table (.builtin "generator.__next__" ⟨[g],[]⟩)=zw9054249554998114525 g (.send .none):=by
   rw [←ze9054249554998114525]
   exact yi g
  rw [e2]
  exact Sm.o ((Da g (.send .none)).2 _ _ _ hd)⟩ else pj _
 |c=>pj c
noncomputable def Hx:(c:Code)→qe c
 |.func [.Return (some (.Call (.Name fn fp) [.GeneratorExp el gens sc gp,.Attribute v at' ap] [] p)) rp] env=>⟨some (DA rp env (C5 fn fp el gens sc gp v at' ap p env)),gA λ w A hd hu=>Sm.o (Sm.ret (Sm.evalCall2 hd))⟩
 |c=>pj c
noncomputable def HU:(c:Code)→qe c
 |.func [.Return (some (.Call (.Attribute o name apos) [.GeneratorExp el gens sc gp] [] p)) rp] env=>⟨some (DA rp env (Ad o name apos el gens sc gp p env)),gA λ w A hd hu=>Sm.o (Sm.ret (Sm.evalMCall1 hd))⟩
 |c=>pj c
noncomputable def Ia:(c:Code)→qe c
 |.compStart (.ListComp elt (⟨target,iter,ifs,0⟩::rest) sc pos) 0 (.ref it) acc env=>⟨some (HS (.ListComp elt (⟨target,iter,ifs,0⟩::rest) sc pos) it acc env),gA λ w A hd hu=>Gi _ _ _ _ _ _ _ _ _ _ _ _⟩
 |c=>pj c
noncomputable def Hu:(c:Code)→qe c
 |.forLoop target it body orelse env=>⟨some (yQ target it body orelse env).1,gA λ w A hd hu=>Sm.o ((yQ _ _ _ _ _).2 _ _ _ hu)⟩
 |c=>pj c
noncomputable def HC:(c:Code)→qe c
 |.func body env=>⟨some (ET env (mT body env)),gA λ w A hd hu=>Sm.o (Ci hu _ _)⟩
 |c=>pj c
noncomputable def Gv:Nat→(c:Code)→qe c
 |0,c=>Hr c
 |1,c=>Hx c
 |2,c=>HU c
 |3,c=>Ia c
 |4,c=>Hu c
 |5,c=>HC c
 |_,c=>pj c
noncomputable def Dw (j:Nat) (c:Code):Option (Sem PySem.Fin):=(Gv j c).1
theorem BK (w:World):yB pg w Dw:=λ j c t h A hd hu=>(Gv j c).2 t h w A hd hu
set_option backward.match.sparseCases false
end
section
variable {A:Around}{t:Nat}{ls:Addr}{n:Nat}
noncomputable abbrev cr (ls:Addr) (i:Int):Obj:=⟨.type "list_iterator",none,.fields #[.ref ls,.int i 0],#[]⟩
end
set_option backward.match.sparseCases true
theorem my {A:Around}{s:Shared}{id:String}{b:Builtin}{args:List Value}(hk:builtinKind id=none) (hp:plainId id=true)
  (hb:entryFor table id=some b) (ha:argsOk id ⟨args,[]⟩)
  (hc:wpAny (model prog w) A.in1 (b ⟨args,[]⟩) (λ fin s'=>∃ v,fin=.done (.ret v)∧R (.ok (.ret v)) s') (λ e s'=>R (.error e) s') s):codeAny (model prog w) A (.call (.builtin id) ⟨args,[]⟩) R s:=by
 refine codeAny_call_builtin hp hb ?_
 have hfin:=wpAny_mono hc (Q':=λ fin s'=>match fin with
   |.done f=>R (.ok f) s'
   |.again c'=>c'.quiet=true∧codeAny (model prog w) A c' R s')
  (λ fin s' h'=>by obtain ⟨v,rfl,hv⟩:=h';exact hv) λ _ _ h'=>h'
 simp only [checkBuiltinCall,hk]
 cases hsig:Manifest.signature? id with
 |none=>exact aA hfin
 |some sig=>
  simp only [argsOk,hsig] at ha
  have h2:Bind.checkArgs id sig ⟨args,[]⟩=pure ():=ha
  show wpAny _ A.in1 (Bind.checkArgs id sig ⟨args,[]⟩) _ _ s
  rw [h2];exact aA hfin
theorem oP {A:Around}{g:Array GenState}{tk:Nat}{x:Str}{t:Tok}(hfit:x.length≤1000)
  (hR:R (.ok (.ret (.int x.length (tk+1)))) ⟨h,g,d,tk+2,os⟩):codeAny (model pg w) A (.call (.builtin "len") ⟨[.str x t],[]⟩) R ⟨h,g,d,tk,os⟩:=by
 refine my kind_len plain_len entry_len (args_len1 _) ?_
 unfold Builtin.«len»
 refine af (m:=oneArg "len" _) (aA ?_)
 refine af (m:=callSpecial? (.str x t) (Str.ofString "__len__")) (wpAny_callSpecial?_slot (name:=Str.ofString "__len__") (typeIs_str _ x t) F.slot_str_len (call_gives F.slot_str_len (typeIs_str _ x t) F.entry_str_len (F.args_str_len_1 _) (gives_str_len x t) ?_))
 show wpAny _ _ _ _ _ ⟨h,g,d,tk+1,os⟩
 refine af (wpAny_holding (aA ?_))
 refine af (wpAny_letGo ?_)
 show wpAny _ _ (if (x.length:Int) < 0 then _ else _) _ _ _
 rw [if_neg (by lia)]
 show wpAny _ _ (if (x.length:Int)≥2 ^ 63 then _ else _) _ _ _
 rw [if_neg (by lia)]
 exact af (wpAny_mkInt (aA ⟨_,rfl,hR⟩))
noncomputable def DO:ws:=λ j c tk=>match j with
 |0=>match c with
  |.call f ⟨[.str x _],[]⟩=>some (.int x.length (tk+1),2,[(f,.builtin "len")],[x.length≤1000])
  |_=>none
 |_=>none
theorem AV (w:World):tS pg w DO:=by
 intro j c tk v x q p hj hq hp A R h g d os hR
 unfold DO at hj
 split at hj
 ·split at hj
  ·cases hj
   have e:=hq _ (ci.mpr rfl)
   dsimp only at e
   subst e
   exact oP (hp _ (ci.mpr rfl)) hR
  ·cases hj
 ·cases hj
set_option backward.match.sparseCases false
section
variable {A:Around}{t:Nat}{ls:Addr}{n:Nat}
noncomputable abbrev eX (a:Addr):Obj:=⟨.type "StopIteration",none,.fields #[.ref a,.none,.none,.none,.bool false,.none],#[]⟩
noncomputable abbrev sF:Obj:=⟨.type "tuple",none,.seq #[] 0,#[]⟩
theorem zg (a:Addr):(⟨.type "StopIteration",none,.fields (#[Value.ref a,Value.none,Value.none,Value.none,Value.bool false,Value.none]++ownMembersOf (Value.type "StopIteration") []),#[]⟩:Obj)=eX a:=by kernel_rfl
end
noncomputable abbrev A0:Around:=⟨none,800,none,none,3000⟩
section
variable {n:Nat}{hs:Int}{f:Str}
theorem AB
  (kin:(K0 w).In hh) (hp:hh.get? pp=some (ax dd xs n)) (op:K0 w pp=none)
  (hd:hh.get? dd=some (d8 hs tk0 v tk1 dn)) (od:K0 w dd=none)
  (hr:hh.get? rw=some (ab ys m)) (or:K0 w rw=none) (n1:pp≠dd) (n2:pp≠rw) (n3:dd≠rw)
  (z1:xs.size≤1000) (z2:ys.size≤1000)
  (R:RP)
  (hR:∀ h' n' hs' t0' t1' dn' t',gB hh h' [pp,dd] []→h'.get? pp=some (ax dd ys n')→h'.get? dd=some (d8 hs' t0' 0 t1' dn')→R (.ok (.ret .none)) ⟨h',gg,dr,t',os⟩):
  codeAny (model pg w) A0 (.call (.ref 112) ⟨[.ref pp,.ref rw],[]⟩) R ⟨hh,gg,dr,tt,os⟩:=by
 obtain ⟨N,hN⟩:=bd hh
 have L:=(((ag.nil kin).addOld hr or (by simp)).addOwn hd od (by simp [n3])).addOwn hp op (by simp [n1,n2])
 refine go (V:=vv w fj hh [pp,dd] N tt gg dr os R) (cu (aO w)) [.k,.k,U,U,U,U,.e,U,U,U,aj,.k,aj,.k,.k,.k,.e,aj,.k,.s] L hN λ ps=>?_
 refine eG AX [0,2,3] ⟨.builtin "list.__setitem__" ⟨[.ref pp,.ref (N+1),.ref rw],[]⟩,none,true,[some (N+1,ri .none .none),some (pp,ax dd xs n),some (dd,d8 hs tk0 v tk1 dn)],2,2,[],[]⟩ (by kernel_rfl) rfl rfl rfl rfl (by simp) λ h1 L1 g1 a1 md1=>?_
 refine lC (i:=0) (lo:=none) (zs:=ys) (L1.ownAt _ _ _ (a1.get 1)) (L1.ownAt _ _ _ (a1.get 0)) IsPart.none (.inl ⟨rfl,rfl⟩) (Nat.zero_le _) (L1.keep _ _ (Hb n2.symm (Hb n3.symm px)) hr) n2 z1 z2 (by simp) λ h2 n2' g2 s2=>?_
 refine jy (cu (aO w)) rfl [ay,aj,.k,.k,.k,.e,aj,.k,.e,aj,.k,aj,.k,.k,.k,aj,.k,cS,cS,cS] (L1.change 2 pp _ _ (a1.get 1) s2 g2) md1 λ ps=>?_
 refine b7 [2,3] ⟨.ret .none,[some (pp,ax dd ys n2'),some (dd,d8 hs tk0 0 (tt+2) dn)],0,3,[],[]⟩ (by kernel_rfl) (by simp) λ h' L' a'=>?_
 exact hR _ _ _ _ _ _ _ (L'.mkPost [] gc gn) (L'.ownAt _ _ _ (a'.get 0)) (L'.ownAt _ _ _ (a'.get 1))
theorem wu {ti:Tok}
  (kin:(K0 w).In hh) (hp:hh.get? pp=some (ax dd xs n)) (op:K0 w pp=none)
  (hd:hh.get? dd=some (d8 hs tk0 v tk1 dn)) (od:K0 w dd=none)
  (n1:pp≠dd) (z1:xs.size≤1000) (hi:i≤xs.size)
  (R:RP)
  (hR:∀ h' n' rr t',gB hh h' [pp] [(rr,ab (xs.toList.drop i).toArray 0)]→h'.get? pp=some (ax dd (xs.toList.take i).toArray n')→R (.ok (.ret (.ref rr))) ⟨h',gg,dr,t',os⟩):
  codeAny (model pg w) A0 (.call (.ref 82) ⟨[.ref pp,.int i ti],[]⟩) R ⟨hh,gg,dr,tt,os⟩:=by
 obtain ⟨N,hN⟩:=bd hh
 have L:=((ag.nil kin).addOld hd od (by simp)).addOwn hp op (by simp [n1])
 refine go (V:=vv w fj hh [pp] N tt gg dr os R) (cu (aO w)) [.k,.k,U,U,U,U,.e,U,U,aj,.k,.k,.k,aj,.k,aj,.k,.k,.k,.e,aj,.k,.s] L hN λ ps=>?_
 refine eG AX [0,2] ⟨.builtin "list.__getitem__" ⟨[.ref pp,.ref (N+1)],[]⟩,none,true,[some (N+1,ri (.int i ti) .none),some (pp,ax dd xs n)],2,2,[],[]⟩ (by kernel_rfl) rfl rfl rfl rfl (by simp) λ h1 L1 g1 a1 md1=>?_
 refine mh (lo:=some i) (hi:=none) (items:=xs) (L1.ownAt _ _ _ (a1.get 1)) rfl (L1.ownAt _ _ _ (a1.get 0)) (IsPart.int _ _) IsPart.none (by unfold sizeLine;lia) _ (slicePick_from' xs i) λ r2 h2 T2=>?_
 have L2:=T2 _ _ _ _ _ L1
 obtain ⟨N2,hN2⟩:=bd h2
 refine jy (cu (aO w)) hN2 [aj,aj,cS,cS,fv,.k,fv,.k,.k,.k,.e,fv,.k,.s] L2 md1 λ ps=>?_
 refine eG AX [0,1,2,5] ⟨.builtin "list.__setitem__" ⟨[.ref pp,.ref (N2+1),.ref N2],[]⟩,none,true,[some (N2+1,ri (.int i ti) .none),some (N2,ab #[] 0),some (r2,ab (xs.toList.drop i).toArray 0),some (pp,ax dd xs n)],2,1,[],[]⟩ (by kernel_rfl) rfl rfl rfl rfl (by simp) λ h3 L3 g3 a3 md3=>?_
 refine lC (i:=i) (lo:=some i) (zs:=(xs.toList.take i).toArray) (L3.ownAt _ _ _ (a3.get 3)) (L3.ownAt _ _ _ (a3.get 0)) (IsPart.int _ _) (.inr rfl) hi (L3.ownAt _ _ _ (a3.get 1)) (L3.neOwn (a3.get 3) (a3.get 1)) z1 (by simp) (by simp) λ h4 n4 g4 s4=>?_
 refine jy (cu (aO w)) rfl [aK] (L3.change 5 pp _ _ (a3.get 3) s4 g4) md3 λ ps=>?_
 refine b7 [2,5] ⟨.ret (.ref r2),[some (r2,ab (xs.toList.drop i).toArray 0),some (pp,ax dd (xs.toList.take i).toArray n4)],0,0,[],[]⟩ (by kernel_rfl) (by simp) λ h' L' a'=>?_
 exact hR _ _ _ _ (L'.mkPost _ (gM (L'.newAt _ _ _ (a'.get 0) (Hb (L'.neOwn (a'.get 0) (a'.get 1)) px)) gc) (gJ px gn)) (L'.ownAt _ _ _ (a'.get 1))
end
section
variable {n:Nat}{hs:Int}{f:Str}{A:Around}
noncomputable abbrev nU (p:Addr):Obj:={ cls:=.type "super",data:=.fields #[.ref 130,.ref p,.ref 130] }
theorem y6 (h:K0 w p=none):p≠130:=by
 rintro rfl
 have e:K0 w 130=some (zS w.params):=by kernel_rfl
 rw [e] at h;cases h
theorem CI (kin:(K0 w).In hh) (hp:hh.get? pp=some (ax dd xs n)) (op:K0 w pp=none) (hso:hh.get? so=some (nU pp)) (R:RP)
  (hR:∀ h' x t',gB hh h' [] [(x,⟨.type "method-wrapper",none,.fields #[.builtin "list.__len__",.ref pp],#[]⟩)]→R (.ok (.ret (.ref x))) ⟨h',gg,dr,t',os⟩):
  codeAny (model pg w) A (.builtin "super.__getattribute__" ⟨[.ref so,.str "__len__" tk],[]⟩) R ⟨hh,gg,dr,tt,os⟩:=by
 obtain ⟨N,hN⟩:=bd hh
 refine mi (p:=pp) "__len__" kin hso (y6 op) (by decide+kernel) Bg DP Fv ?_
 refine go (V:=vv w fj hh [] N tt gg dr os _) (cu (aO w)) [.e,aD,.k] ((ag.nil kin).addOld hp op (by simp)) hN λ ps=>?_
 refine b7 [0] ⟨.ret (.ref N),[some (N,⟨.type "method-wrapper",none,.fields #[.builtin "list.__len__",.ref pp],#[]⟩)],1,0,[],[]⟩ (by kernel_rfl) (by simp) λ h' L' a'=>?_
 exact hR _ _ _ (L'.mkPost _ (gM (L'.newAt _ _ _ (a'.get 0) px) gc) (gJ px gn))
theorem BD (kin:(K0 w).In hh) (hp:hh.get? pp=some (ax dd xs n)) (op:K0 w pp=none) (hso:hh.get? so=some (nU pp)) (R:RP)
  (hR:∀ h' x t',gB hh h' [] [(x,⟨.type "builtin_function_or_method",none,.fields #[.builtin "list.pop",.ref pp],#[]⟩)]→R (.ok (.ret (.ref x))) ⟨h',gg,dr,t',os⟩):
  codeAny (model pg w) A (.builtin "super.__getattribute__" ⟨[.ref so,.str "pop" tk],[]⟩) R ⟨hh,gg,dr,tt,os⟩:=by
 obtain ⟨N,hN⟩:=bd hh
 refine mi (p:=pp) "pop" kin hso (y6 op) (by decide+kernel) BU Du HW ?_
 refine go (V:=vv w fj hh [] N tt gg dr os _) (cu (aO w)) [.e,aD,.k] ((ag.nil kin).addOld hp op (by simp)) hN λ ps=>?_
 refine b7 [0] ⟨.ret (.ref N),[some (N,⟨.type "builtin_function_or_method",none,.fields #[.builtin "list.pop",.ref pp],#[]⟩)],1,0,[],[]⟩ (by kernel_rfl) (by simp) λ h' L' a'=>?_
 exact hR _ _ _ (L'.mkPost _ (gM (L'.newAt _ _ _ (a'.get 0) px) gc) (gJ px gn))
theorem yP (kin:(K0 w).In hh) (hp:hh.get? pp=some (ax dd xs n)) (op:K0 w pp=none) (hso:hh.get? so=some (nU pp)) (R:RP)
  (hR:∀ h' x t',gB hh h' [] [(x,⟨.type "method-wrapper",none,.fields #[.builtin "list.__init__",.ref pp],#[]⟩)]→R (.ok (.ret (.ref x))) ⟨h',gg,dr,t',os⟩):
  codeAny (model pg w) A (.builtin "super.__getattribute__" ⟨[.ref so,.str "__init__" tk],[]⟩) R ⟨hh,gg,dr,tt,os⟩:=by
 obtain ⟨N,hN⟩:=bd hh
 refine mi (p:=pp) "__init__" kin hso (y6 op) (by decide+kernel) zh BI Fv ?_
 refine go (V:=vv w fj hh [] N tt gg dr os _) (cu (aO w)) [.e,aD,.k] ((ag.nil kin).addOld hp op (by simp)) hN λ ps=>?_
 refine b7 [0] ⟨.ret (.ref N),[some (N,⟨.type "method-wrapper",none,.fields #[.builtin "list.__init__",.ref pp],#[]⟩)],1,0,[],[]⟩ (by kernel_rfl) (by simp) λ h' L' a'=>?_
 exact hR _ _ _ (L'.mkPost _ (gM (L'.newAt _ _ _ (a'.get 0) px) gc) (gJ px gn))
noncomputable abbrev A1:Around:=⟨none,700,none,none,2000⟩
noncomputable abbrev A2:Around:=⟨none,600,none,none,1000⟩
end
section
variable {n:Nat}{hs:Int}{f:Str}{A:Around}
theorem wK (kin:(K0 w).In hh) (hp:hh.get? pp=some (ax dd xs n)) (op:K0 w pp=none) (R:RP)
  (hR:∀ h' so,gB hh h' [] [(so,nU pp)]→R (.ok (.ret (.ref so))) ⟨h',gg,dr,tt,os⟩):
  codeAny (model pg w) A (.call (.type "super") ⟨[.ref 130,.ref pp],[]⟩) R ⟨hh,gg,dr,tt,os⟩:=by
 obtain ⟨N,hN⟩:=bd hh
 refine go (V:=vv w fj hh [] N tt gg dr os _) (cu (aO w)) [.e,.k,.e,.e,U,U,.e,U,.e,.k,aD,aD,.k,U,U,U,U,U,U] ((ag.nil kin).addOld hp op (by simp)) hN λ ps=>?_
 refine b7 [0] ⟨.ret (.ref N),[some (N,nU pp)],1,0,[],[]⟩ (by kernel_rfl) (by simp) λ h' L' a'=>?_
 exact hR _ _ (L'.mkPost _ (gM (L'.newAt _ _ _ (a'.get 0) px) gc) (gJ px gn))
theorem jb {attr:Str}{whole:Sem Value}{p0 p1:Pos}{f cc L:Addr}{of oc:Obj}{ar:Arg}{vs:VA}{file:Str}{Q:Value→Shared→Prop}{hs1 hs2 hs3 hs4:List Hn}{q3:List (Value×Value)}
  (kin:(K0 w).In hh) (hp:hh.get? pp=some (ax dd xs n)) (op:K0 w pp=none) (hL:hh.get? L=some oL)
  (hks:env.kindOf "super"=some .globalImplicit) (hkc:env.kindOf "__class__"=some .free) (hat:(attr==("__class__":Str))=false) (hfu:env.func=some f) (hf:K0 w f=some of) (hfd:of.data=.func fd)
  (har:(fd.params.posonlyargs++fd.params.args).head?=some ar) (hco:env.code=.ref cc) (hcc:K0 w cc=some oc) (hoc:oc.data=.fields vs) (hvs:vs[2]?=some (.str file tf))
  (hfile:((pg.main.file:Str)==file)=true) (htop:(pg.main.scope.names.lookup ("super":Str)).isSome=false)
  (e1:j8 (K0 w) ⟨pg,w.params⟩ [] 1000 hs1 (loadName env "super") []=some (.type "super",[])) (e2:j8 (K0 w) ⟨pg,w.params⟩ [] 1000 hs2 (loadName env "__class__") []=some (.ref 130,[]))
  (e3:j8 (K0 w) ⟨pg,w.params⟩ [(L,oL)] 1000 hs3 (loadName env ar.arg) []=some (.ref pp,q3)) (d3:q3=FB q3) (e4:j8 (K0 w) ⟨pg,w.params⟩ [] 1000 hs4 (isType (.ref 130)) []=some (true,[]))
  (x:∀ h' so,gB hh h' [] [(so,nU pp)]→Q (.ref so) ⟨h',gg,dr,tt,os⟩):
  wpOwn (model pg w) A (.func body env) (attributeBase (.Call (.Name "super" p0) [] [] p1) attr env whole) Q E ⟨hh,gg,dr,tt,os⟩:=by
 refine D2 (ks_wpAt_super_base hks hkc hat hfu (kin _ _ hf) hfd har hco (kin _ _ hcc) hoc hvs hfile htop ?_)
 have no:∀ y∈([]:List (Value×Value)),y.1=y.2:=λ _ h=>(nomatch h)
 have no':∀ p∈([]:aq),hh.get? p.1=some p.2:=λ _ h=>(nomatch h)
 refine (eR kin no' _ _ _ _ _ _ e1 no ⟨rfl,?_⟩).2
 refine (eR kin no' _ _ _ _ _ _ e2 no ?_).2
 refine (eR kin (λ p hp=>?_) _ _ _ _ _ _ e3 (Cl d3) ?_).2
 ·rw [ci.mp hp];exact hL
 refine (eR kin no' _ _ _ _ _ _ e4 no ⟨rfl,?_⟩).2
 exact wpAny_call (wK kin hp op _ λ h' so P=>x h' so P)
noncomputable abbrev kz (w:World) (s:Str):Int:=PySem.W.ZFast.zw12210062019545310541 (w.params.strHash s.cps)
noncomputable abbrev DC (h0:Int) (t0:Tok) (v:Value) (n:Nat):Obj:=⟨.type "frame",none,.dict #[⟨h0,.str "self" t0,v⟩] n,#[]⟩
noncomputable def DH (i:Nat) (q:Str) (L f cc:Addr):Env:={ scope:=fS (ms 8 i),locals:=L,globals:=3,cells:=[("__class__",54)],qual:=q++".<locals>.",func:=some f,code:=.ref cc,frame:=some L,builtins:=0 }
theorem jR
  (kin:(K0 w).In hh) (hp:hh.get? pp=some (ax dd xs n)) (op:K0 w pp=none) (R:RP)
  (hR:∀ h' tk t',gB hh h' [] []→R (.ok (.ret (.int xs.size tk))) ⟨h',gg,dr,t',os⟩):
  codeAny (model pg w) A0 (.call (.ref 127) ⟨[.ref pp],[]⟩) R ⟨hh,gg,dr,tt,os⟩:=by
 obtain ⟨N,hN⟩:=bd hh
 have L:=(ag.nil kin).addOld hp op (by simp)
 refine go (V:=vv w fj hh [] N tt gg dr os R) (cu (aO w)) [.k,U,U,.s] L hN λ ps=>?_
 refine kb (cu (aO w)) A0 [0] ⟨fB (ms 8 8),DH 8 "_Accumulator.part_count" N 127 126,[some (N,DC (kz w ⟨#[115,101,108,102]⟩) tt (.ref pp) 1)],1,1⟩ (by kernel_rfl) λ h1 L1 g1 a1=>?_
 show wpOwn _ _ _ (execs [.Return (some (.Call (.Attribute (.Call (.Name _ _) [] [] _) _ _) [] [] _)) _] _) _ _ _
 rw [bf,dZ,eM]
 simp only [bind_assoc]
 refine bG (eY (wpAny_standAt ?_))
 refine bG ?_
 refine jb (pp:=pp) (xs:=xs) (n:=n) (dd:=dd) (L:=N) L1.kin (L1.keep _ _ px hp) op (L1.ownAt _ _ _ (a1.get 0)) (by kernel_rfl) (by kernel_rfl) (by kernel_rfl) rfl rfl rfl rfl rfl rfl rfl rfl (by kernel_rfl) (by kernel_rfl) (hs1:=[.k,.k]) (hs2:=[.k]) (hs3:=[U]) (hs4:=[.k]) (by kernel_rfl) (by kernel_rfl) (q3:=[(.ref N,.ref N)]) (by kernel_rfl) rfl (by kernel_rfl) λ h2 so P=>?_
 rw [PySem.W.ZFast.ze13401596951702201221]
 obtain ⟨N2,hN2⟩:=bd h2
 refine lb (V:=vv w fj hh [] N2 (tt+1) gg dr os (lJ _ _)) (cu (aO w)) [U,U,.e,U,.s] rfl (L1.after0 P) hN2 λ ps=>?_
 refine eG AX [0] ⟨.builtin "super.__getattribute__" ⟨[.ref so,.str "__len__" (tt+1)],[]⟩,none,true,[some (so,nU pp)],0,1,[],[]⟩ (by kernel_rfl) rfl rfl rfl rfl (by simp) λ h3 L3 g3 a3 md3=>?_
 refine CI L3.kin (L3.keep _ _ px hp) op (L3.ownAt _ _ _ (a3.get 0)) _ λ h4 mw t4 P4=>?_
 obtain ⟨N4,hN4⟩:=bd h4
 refine jy (cu (aO w)) hN4 [U,.e,U,.e,aD] (L3.after0 P4) md3 λ ps=>?_
 refine b7 [] ⟨.ret (.int xs.size t4),[],0,1,[],[]⟩ (by kernel_rfl) (by simp) λ h' L' a'=>?_
 exact hR _ _ _ (L'.mkPost [] gc gn)
end
section
variable {n:Nat}{hs:Int}{f:Str}{A:Around}
theorem gE (row:String) (w:World):∃ (w':World) (b:Bool),w=w'.withFollow row b:=⟨w,_,(World.withFollow_self w row).symm⟩
theorem cB (w:World):∃ (w':World) (b:Bool),w=w'.withFollow "special-get-raises" b:=gE _ w
theorem kC (st:Stmt) (rest:List Stmt) (env:Env):execs (st::rest) env=(execs [st] env>>=λ f=>match f with|.next=>execs rest env|f=>pure f):=by
 rw [bf st rest,bf st [],bind_assoc];congr 1;funext f;induction f<;>rfl
noncomputable def sL (M:Model) (A:Around) (c:Code) (rest:List Stmt) (env:Env) (Q:Flow→Shared→Prop) (E:Value→Shared→Prop):Flow→Shared→Prop:=λ f s'=>match f with
 |.next=>wpOwn M A c (execs rest env) Q E s'
 |f=>Q f s'
theorem aP {A:Around}{a:α}{Q:α→Shared→Prop}{s:Shared}(h:Q a s):wpOwn M A c (pure a) Q E s:=λ _ _ _ _=>h
theorem qK (O:V.Ok) (hs:List Hn) {A:Around}{st:Stmt}{rest:List Stmt}{Q:Flow→Shared→Prop}(hR:V.R=lJ (sL (model V.prog V.w) A c rest env Q E) E) {own:aq}(L:ag V.K V.H h V.F own old) (hn:h.objs.size=V.n)
  (x:∀ ps,(DM V hs A c (PySem.W.ZFast.zw12563942051412417395 [st] env) own old ps).FineOf V):
  wpOwn (model V.prog V.w) A c (execs (st::rest) env) Q E ⟨h,V.gg,V.d,V.t₀,V.os⟩:=by
 rw [kC]
 refine bG ?_
 have z:=lb O hs (c:=c) (A:=A) hR L hn x
 rw [←PySem.W.ZFast.ze12563942051412417395] at z
 intro Γ p hc hΓ
 refine Sem.wp_mono _ Γ _ (λ f p' s' h'=>?_) (λ e p' s' h'=>h') p _ (z Γ p hc hΓ)
 induction f with
 |next=>exact h'
 |_=>exact aP h'
theorem GK {xv:Addr}
  (kin:(K0 w).In hh) (hp:hh.get? pp=some (ax dd (l++[Value.ref xv]).toArray n)) (op:K0 w pp=none) (hd:hh.get? dd=some (d8 hs tk0 v tk1 dn)) (od:K0 w dd=none) (n1:pp≠dd) (z1:l.length≤1000) (R:RP)
  (hR:∀ h' n' t',gB hh h' [pp] []→h'.get? pp=some (ax dd l.toArray n')→R (.ok (.ret (.ref xv))) ⟨h',gg,dr,t',os⟩):
  codeAny (model pg w) A1 (.call (.ref 90) ⟨[.ref pp],[]⟩) R ⟨hh,gg,dr,tt,os⟩:=by
 obtain ⟨N,hN⟩:=bd hh
 have L:=((ag.nil kin).addOld hd od (by simp)).addOwn hp op (by simp [n1])
 refine go (V:=vv w fj hh [pp] N tt gg dr os R) (cu (aO w)) [.k,U,U,.s] L hN λ ps=>?_
 refine kb (cu (aO w)) A1 [0,1] ⟨fB (ms 8 3),DH 3 "_Accumulator.pop" N 90 89,[some (N,DC (kz w ⟨#[115,101,108,102]⟩) tt (.ref pp) 1),some (pp,ax dd (l++[Value.ref xv]).toArray n)],1,1⟩ (by kernel_rfl) λ h1 L1 g1 a1=>?_
 show wpOwn _ _ _ (execs (_::[_]) _) _ _ _
 obtain ⟨N1,hN1⟩:=bd h1
 refine qK (V:=vv w fj hh [pp] N1 (tt+1) gg dr os (lJ (sL (model pg w) _ _ _ _ _ _) _)) (cu (aO w)) [U,ay,.k,.k,.k,ay,.k,.k,.k,ay,.k,.k,.k,.k,ay,aD,.k,.s] rfl L1 hN1 λ ps=>?_
 refine nE A0 [1] ⟨.call (.ref 127) ⟨[.ref pp],[]⟩,none,true,[some (pp,ax dd (l++[Value.ref xv]).toArray n)],0,0,[],[]⟩ (by kernel_rfl) rfl rfl rfl rfl (by simp) λ h2 L2 g2 a2 md2=>?_
 refine jR L2.kin (L2.ownAt _ _ _ (a2.get 0)) op _ λ h3 tk3 t3 P3=>?_
 rw [show (l++[Value.ref xv]).toArray.size=l.length+1 by simp]
 obtain ⟨N3,hN3⟩:=bd h3
 obtain ⟨w,b,rfl⟩:=cB w
 refine jy (cu (aO _)) hN3 [.e,.e] (L2.after0 P3) md2 λ ps=>?_
 refine b7 [0,1] ⟨.next,[some (N,DC (kz w ⟨#[115,101,108,102]⟩) tt (.ref pp) 1),some (pp,ax dd (l++[Value.ref xv]).toArray n)],0,1,[],[]⟩ (by apply bq b;kernel_rfl) (by simp) λ h4 L4 a4=>?_
 show wpOwn _ _ _ (execs [.Return (some (.Call (.Attribute (.Call (.Name _ _) [] [] _) _ _) [] [] _)) _] _) _ _ _
 rw [bf,dZ,eM]
 simp only [bind_assoc]
 refine bG (eY (wpAny_standAt ?_))
 refine bG ?_
 refine jb (pp:=pp) (xs:=(l++[Value.ref xv]).toArray) (n:=n) (dd:=dd) (L:=N) L4.kin (L4.ownAt _ _ _ (a4.get 1)) op (L4.ownAt _ _ _ (a4.get 0)) (by apply bq b;kernel_rfl) (by apply bq b;kernel_rfl) (by apply bq b;kernel_rfl) rfl rfl rfl rfl rfl rfl rfl rfl (by apply bq b;kernel_rfl) (by apply bq b;kernel_rfl) (hs1:=[.k,.k]) (hs2:=[.k]) (hs3:=[U]) (hs4:=[.k]) (by apply bq b;kernel_rfl) (by apply bq b;kernel_rfl) (q3:=[(.ref N,.ref N)]) (by apply bq b;kernel_rfl) rfl (by apply bq b;kernel_rfl) λ h5 so P=>?_
 rw [PySem.W.ZFast.ze13401596951702201221]
 obtain ⟨N5,hN5⟩:=bd h5
 refine lb (V:=vv _ fj hh [pp] N5 (t3+1) gg dr os (lJ _ _)) (cu (aO _)) [U,U,.e,U,.s] rfl (L4.after0 P) hN5 λ ps=>?_
 refine eG AX [0,2] ⟨.builtin "super.__getattribute__" ⟨[.ref so,.str "pop" (t3+1)],[]⟩,none,true,[some (so,nU pp),some (pp,ax dd (l++[Value.ref xv]).toArray n)],0,1,[],[]⟩ (by apply bq b;kernel_rfl) rfl rfl rfl rfl (by simp) λ h6 L6 g6 a6 md6=>?_
 refine BD L6.kin (L6.ownAt _ _ _ (a6.get 1)) op (L6.ownAt _ _ _ (a6.get 0)) _ λ h7 mw t7 P7=>?_
 obtain ⟨N7,hN7⟩:=bd h7
 refine jy (cu (aO _)) hN7 [U,.e,U,cS,.k,cS,cS,.k,.k,.s] (L6.after0 P7) md6 λ ps=>?_
 refine eG AX [3] ⟨.builtin "list.pop" ⟨[.ref pp],[]⟩,none,true,[some (pp,ax dd (l++[Value.ref xv]).toArray n)],0,0,[],[]⟩ (by apply bq b;kernel_rfl) rfl rfl rfl rfl (by simp) λ h8 L8 g8 a8 md8=>?_
 refine ve (l:=l) (v:=.ref xv) (L8.ownAt _ _ _ (a8.get 0)) z1 λ h9 n9 g9 s9=>?_
 refine jy (cu (aO _)) rfl [] (L8.change 3 pp _ _ (a8.get 0) s9 g9) md8 λ ps=>?_
 refine b7 [3] ⟨.ret (.ref xv),[some (pp,ax dd l.toArray n9)],0,0,[],[]⟩ (by apply bq b;kernel_rfl) (by simp) λ h' L' a'=>?_
 exact hR _ _ _ (L'.mkPost [] gc gn) (L'.ownAt _ _ _ (a'.get 0))
end
section
variable {n:Nat}{hs:Int}{f:Str}{A:Around}
theorem j4 {fn:Expr}{args:List Expr}{kws:List Keyword}{cpos:Pos}(hi:interactive env=false):exec (.Expr (.Call fn args kws cpos) pos) env=(standAt pos>>=λ _=>eval (.Call fn args kws cpos) env>>=λ v=>dropValue (.Call fn args kws cpos) pos v):=by
 show (standAt pos>>=λ _=>if interactive env=true then _ else _)=_
 rw [hi];rfl
noncomputable abbrev FI (h0 h1:Int) (t0 t1:Tok) (v0 v1:Value) (n:Nat):Obj:=⟨.type "frame",none,.dict #[⟨h0,.str "self" t0,v0⟩,⟨h1,.str "initial_size" t1,v1⟩] n,#[]⟩
noncomputable abbrev A8:Around:=⟨none,880,none,none,4500⟩
theorem D4 {k:Int}
  (kin:(K0 w).In hh) (hp:hh.get? pp=some (ax dd #[] 0)) (op:K0 w pp=none)
  (hd:hh.get? dd=some ⟨.type "dict",none,.dict #[] 0,#[]⟩) (od:K0 w dd=none) (n1:pp≠dd) (R:RP)
  (hR:∀ h' hs t0 t1 dn t',gB hh h' [pp,dd] []→h'.get? pp=some (ax dd #[] 0)→h'.get? dd=some (d8 hs t0 k t1 dn)→R (.ok (.ret .none)) ⟨h',gg,dr,t',os⟩):
  codeAny (model pg w) A8 (.call (.ref 67) ⟨[.ref pp,.int k tk],[]⟩) R ⟨hh,gg,dr,tt,os⟩:=by
 obtain ⟨N,hN⟩:=bd hh
 have L:=((ag.nil kin).addOwn hd od (by simp)).addOwn hp op (by simp [n1])
 refine go (V:=vv w fj hh [pp,dd] N tt gg dr os R) (cu (aO w)) [.k,.k,U,U,U,U,.s] L hN λ ps=>?_
 refine kb (cu (aO w)) A8 [0,1,2] ⟨fB (ms 8 0),DH 0 "_Accumulator.__init__" N 67 66,[some (N,FI (kz w ⟨#[115,101,108,102]⟩) (kz w ⟨#[105,110,105,116,105,97,108,95,115,105,122,101]⟩) tt (tt+1) (.ref pp) (.int k tk) 2),some (pp,ax dd #[] 0),some (dd,⟨.type "dict",none,.dict #[] 0,#[]⟩)],1,2⟩ (by kernel_rfl) λ h1 L1 g1 a1=>?_
 show wpOwn _ _ _ (execs (_::[_]) _) _ _ _
 obtain ⟨N1,hN1⟩:=bd h1
 refine qK (V:=vv w fj hh [pp,dd] N1 (tt+2) gg dr os (lJ (sL (model pg w) _ _ _ _ _ _) _)) (cu (aO w)) [U,U,ay,.k,.k,.k,.e,ay,.k,.e,ay,.k,ay,.k,.k,.k,ay,.k,aj,aj,aj] rfl L1 hN1 λ ps=>?_
 refine b7 [0,1,2] ⟨.next,[some (N,FI (kz w ⟨#[115,101,108,102]⟩) (kz w ⟨#[105,110,105,116,105,97,108,95,115,105,122,101]⟩) tt (tt+1) (.ref pp) (.int k tk) 2),some (pp,ax dd #[] 0),some (dd,d8 (kz w ⟨#[95,105,110,105,116,105,97,108,95,115,105,122,101]⟩) (tt+2+1) k tk 1)],0,2,[],[]⟩ (by kernel_rfl) (by simp) λ h4 L4 a4=>?_
 show wpOwn _ _ _ (execs [.Expr (.Call (.Attribute (.Call (.Name _ _) [] [] _) _ _) [] [] _) _] _) _ _ _
 rw [bf,j4 (by kernel_rfl),eM]
 simp only [bind_assoc]
 refine bG (eY (wpAny_standAt ?_))
 refine bG ?_
 refine jb (pp:=pp) (xs:=#[]) (n:=0) (dd:=dd) (L:=N) L4.kin (L4.ownAt _ _ _ (a4.get 1)) op (L4.ownAt _ _ _ (a4.get 0)) (by kernel_rfl) (by kernel_rfl) (by kernel_rfl) rfl rfl rfl rfl rfl rfl rfl rfl (by kernel_rfl) (by kernel_rfl) (hs1:=[.k,.k]) (hs2:=[.k]) (hs3:=[U]) (hs4:=[.k]) (by kernel_rfl) (by kernel_rfl) (q3:=[(.ref N,.ref N)]) (by kernel_rfl) rfl (by kernel_rfl) λ h5 so P=>?_
 rw [PySem.W.ZFast.ze13401596951702201221]
 obtain ⟨N5,hN5⟩:=bd h5
 refine lb (V:=vv _ fj hh [pp,dd] N5 (tt+2+2) gg dr os (lJ _ _)) (cu (aO _)) [U,U,.e,U,.s] rfl (L4.after0 P) hN5 λ ps=>?_
 refine eG AX [0,2] ⟨.builtin "super.__getattribute__" ⟨[.ref so,.str "__init__" (tt+2+2)],[]⟩,none,true,[some (so,nU pp),some (pp,ax dd #[] 0)],0,1,[],[]⟩ (by kernel_rfl) rfl rfl rfl rfl (by simp) λ h6 L6 g6 a6 md6=>?_
 refine yP L6.kin (L6.ownAt _ _ _ (a6.get 1)) op (L6.ownAt _ _ _ (a6.get 0)) _ λ h7 mw t7 P7=>?_
 obtain ⟨N7,hN7⟩:=bd h7
 refine jy (cu (aO _)) hN7 [U,.e,U,.e,cS,cS,cS,cS] (L6.after0 P7) md6 λ ps=>?_
 refine b7 [3,4] ⟨.next,[some (pp,ax dd #[] 0),some (dd,d8 (kz w ⟨#[95,105,110,105,116,105,97,108,95,115,105,122,101]⟩) (tt+2+1) k tk 1)],0,0,[],[]⟩ (by kernel_rfl) (by simp) λ h' L' a'=>?_
 exact hR _ _ _ _ _ _ (L'.mkPost [] gc gn) (L'.ownAt _ _ _ (a'.get 0)) (L'.ownAt _ _ _ (a'.get 1))
theorem GD {k:Int}
  (kin:(K0 w).In hh) (R:RP)
  (hR:∀ h' p dd hs t0 t1 dn t',gB hh h' [] [(p,ax dd #[] 0),(dd,d8 hs t0 k t1 dn)]→R (.ok (.ret (.ref p))) ⟨h',gg,dr,t',os⟩):
  codeAny (model pg w) A0 (.call (.ref 130) ⟨[.int k tk],[]⟩) R ⟨hh,gg,dr,tt,os⟩:=by
 obtain ⟨N,hN⟩:=bd hh
 have L:=(ag.nil kin)
 refine go (V:=vv w fj hh [] N tt gg dr os R) (cu (aO w)) [.k,.k,.e,.k,.e,.k,.k,.k,.e,.k,.k,.k,.k,.k,.k,.k,.e,.k,.k,.k,U,.k,U,.k,.k,.k,.k,.s] L hN λ ps=>?_
 refine nE A8 [0,1] ⟨.call (.ref 67) ⟨[.ref (N+1),.int k tk],[]⟩,none,true,[some (N+1,ax N #[] 0),some (N,⟨.type "dict",none,.dict #[] 0,#[]⟩)],2,0,[],[]⟩ (by kernel_rfl) rfl rfl rfl rfl (by simp) λ h2 L2 g2 a2 md2=>?_
 refine D4 L2.kin (L2.ownAt _ _ _ (a2.get 0)) (L2.offOwn (a2.get 0)) (L2.ownAt _ _ _ (a2.get 1)) (L2.offOwn (a2.get 1)) (L2.neOwn (a2.get 0) (a2.get 1)) _ λ h3 hs t0 t1 dn t3 P3 e3 e4=>?_
 obtain ⟨N3,hN3⟩:=bd h3
 refine jy (cu (aO _)) hN3 [] (L2.after2 0 1 _ _ _ _ _ _ P3 (a2.get 0) (a2.get 1) rfl e3 e4) md2 λ ps=>?_
 refine b7 [0,1] ⟨.ret (.ref (N+1)),[some (N+1,ax N #[] 0),some (N,d8 hs t0 k t1 dn)],0,0,[],[]⟩ (by kernel_rfl) (by simp) λ h' L' a'=>?_
 exact hR _ _ _ _ _ _ _ _ (L'.mkPost _ (gM (L'.newAt _ _ _ (a'.get 0) px) (gM (L'.newAt _ _ _ (a'.get 1) px) gc)) (gJ (Hb (L'.neOwn (a'.get 0) (a'.get 1)) px) (gJ px gn)))
end
structure dQ (w:World) (P:KF) where
 C:Ct
 ok:cT pg w (KP w P) C
noncomputable def vc (w:World) (P:KF) (cs:List (dQ w P)) (pf old:aq) (H:Heap) (F:List Addr) (n t₀:Nat) (gg:BG) (d:Drawn) (os:OsState) (R:RP):RV:=
 ⟨⟨pg,w,KP w P,H,F,d,os,R,DO,Dw,cs.map (·.C),pf,old⟩,n,t₀,gg⟩
theorem cR {cs:List (dQ w P)}{F:List Addr}{n:Nat}(hp:∀ p∈pf,KP w P p.1=some p.2):(vc w P cs pf old H F n t₀ gg d os R).toRF.Ok:=
 ⟨Ek w P,AV w,BK w,λ C hC=>by obtain ⟨c,_,rfl⟩:=aY.mp hC;exact c.ok,hp⟩
theorem am:∀ p∈([]:aq),K p.1=some p.2:=λ _ h=>nomatch h
theorem f9 {o:Obj}{l:aq}(h:K a=some o) (t:∀ p∈l,K p.1=some p.2):∀ p∈(a,o)::l,K p.1=some p.2:=f0.mpr ⟨h,t⟩
theorem dv {F:List Addr}{n:Nat}(cs:List (dQ w P)) (hp:∀ p∈pf,KP w P p.1=some p.2) (hs:List Hn) {A:Around}{own:aq}(L:ag (KP w P) H h F own old) (hn:h.objs.size=n) (x:∀ ps,(EK (vc w P cs pf old H F n t₀ gg d os R) hs A c own old ps).FineOf (vc w P cs pf old H F n t₀ gg d os R)):
 codeAny (model pg w) A c R ⟨h,gg.1,d,t₀,os⟩:=go (cR hp) hs L hn x
noncomputable def Do (w:World) (R:RP) (r:RS) (q:Result) (s:Shared):Prop:=∀ V:RV,V.prog=pg→V.w=w→V.R=R→tn V r q s
structure ER (r r0:RS):Prop where
 md:r.md=none
 eq:r=r0
variable {md:Option (List Frame)}
noncomputable def tN (gg:BG):List GenState→Array GenState
 |[]=>gg.1
 |[x]=>gg.1.push x
 |gl=>⟨gg.1.toList++gl⟩
theorem mn:∀ gl,mz V gl=tN V.gg gl
 |[]=>rfl
 |[_]=>rfl
 |_::_::_=>rfl
theorem EM (O:V'.toRF.Ok) (e1:V'.prog=V.prog) (e2:V'.w=V.w) (e3:V'.R=V.R) {q:Result}(hn:h.objs.size=V'.n) (hs:List Hn) {own:aq}(L:ag V'.K V'.H h V'.F own old) (hmd:r.md=none)
  (x:∀ ps,(xF V' hs r q own old ps).FineOf V'):tn V r q ⟨h,V'.gg,V'.d,V'.t₀,V'.os⟩:=by
 unfold xF at x
 have G:Gd V' own old 0 h:=⟨L,hn⟩
 have z:=(fx 1000000 _ O hs r.A r.c r.md false (r.kont q) r.κ own old 0 0 [] [] []).2 x h G
 rw [hmd] at z
 unfold sh at z
 rw [dy] at z
 unfold tn
 show wpOwn (model V.prog V.w) r.A r.c (r.kont q) (postC V.prog V.w r.A (bB V r.κ)) (postE (bB V r.κ)) _
 rw [←dJ e1 e2 e3 r.κ,←e1,←e2]
 exact z
section
variable {cs:List (dQ w P)}{F:List Addr}{n:Nat}
theorem ma (R:RP) (cs:List (dQ w P)) (hp:∀ p∈pf,KP w P p.1=some p.2) {q:Result}(hn:h.objs.size=n) (hs:List Hn) {own:aq}(L:ag (KP w P) H h F own old) {rr:RS}(m:ER rr r) (x:∀ ps,(xF (vc w P cs pf old H F n t₀ gg d os R) hs r q own old ps).FineOf (vc w P cs pf old H F n t₀ gg d os R)):
  Do w R rr q ⟨h,gg.1,d,t₀,os⟩:=λ V e1 e2 e3=>by
 have hm:=m.md
 rw [m.eq] at hm⊢
 exact EM (V:=V) (V':=vc w P cs pf old H F n t₀ gg d os R) (cR hp) e1.symm e2.symm e3.symm hn hs L hm x
theorem Fy {A:Around}{s:Shared}(x:codeAny M A c (Do w R r) s):codeAny M A c (tn (vc w P cs pf old H F n t₀ gg d os R) r) s:=codeAny_mono x λ _ _ h=>h _ rfl rfl rfl
theorem iP (sel:List Nat) (k:Nat) (tl:aq) (v:cI) (hw:v=⟨vf,vo,vb⟩) (e:(r.V.toRF,r.old,r.eqs,r.gl.all GenState.bare,r.doneV sel k)=((vc w P cs pf old H F n t₀ gg d os R).toRF,old,dup r.eqs,true,(cI.mk vf vo vb).x tl)) (nd:sel.Nodup) (hF:∀ a∈F,a∈(vo++tl).map (·.1)) (ho:∀ y∈vb,y)
 (x:∀ h (g:BG) t,ag (KP w P) H h F (vo++tl) old→R vf ⟨h,g,d,t,os⟩):r.FineOf (vc w P cs pf old H F n t₀ gg d os R):=kg sel k tl ⟨vf,vo,vb⟩ e nd hF ho λ h g t _=>x h g t
theorem eN (sel:List Nat) (k:Nat) (tl:aq) (v:cI) (hw:v=⟨vf,vo,vb⟩) (e:(r.V.toRF,r.old,r.eqs,r.gl.all GenState.bare,r.doneV sel k)=((vc w P cs pf old H F n t₀ gg d os R).toRF,old,dup r.eqs,true,(cI.mk vf vo vb).x tl)) (nd:sel.Nodup) (hF:F=(vo.take F.length).map (·.1)) (ho:∀ y∈vb,y)
 (x:∀ h (g:BG) t,ag (KP w P) H h F (vo++tl) old→R vf ⟨h,g,d,t,os⟩):r.FineOf (vc w P cs pf old H F n t₀ gg d os R):=kg sel k tl ⟨vf,vo,vb⟩ e nd (dc hF) ho λ h g t _=>x h g t
theorem ju (sel:List Nat) (k:Nat) (tl:aq) (v:cI) (hw:v=⟨vf,vo,vb⟩) (e:(r.V.toRF,r.old,r.eqs,r.gl.all GenState.bare,r.doneV sel k)=((vc w P cs pf old H F n t₀ gg d os R).toRF,old,dup r.eqs,true,(cI.mk vf vo vb).x tl)) (eg:(r.V.gg,r.gl)=(gg,gl)) (nd:sel.Nodup) (hF:∀ a∈F,a∈(vo++tl).map (·.1)) (ho:∀ y∈vb,y)
  (x:∀ h t,ag (KP w P) H h F (vo++tl) old→R vf ⟨h,tN gg gl,d,t,os⟩):r.FineOf (vc w P cs pf old H F n t₀ gg d os R):=kg sel k tl ⟨vf,vo,vb⟩ e nd hF ho λ h g t q L=>by
 rw [←q,lr (V:=vc w P cs pf old H F n t₀ gg d os R) (congrArg (·.1) eg) (congrArg (·.2) eg),mn];exact x h t L
theorem lE (sel:List Nat) (k:Nat) (tl:aq) (v:cI) (hw:v=⟨vf,vo,vb⟩) (e:(r.V.toRF,r.old,r.eqs,r.gl.all GenState.bare,r.doneV sel k)=((vc w P cs pf old H F n t₀ gg d os R).toRF,old,dup r.eqs,true,(cI.mk vf vo vb).x tl)) (eg:(r.V.gg,r.gl)=(gg,[])) (nd:sel.Nodup) (hF:∀ a∈F,a∈(vo++tl).map (·.1)) (ho:∀ y∈vb,y)
 (x:∀ h t,ag (KP w P) H h F (vo++tl) old→R vf ⟨h,gg,d,t,os⟩):r.FineOf (vc w P cs pf old H F n t₀ gg d os R):=ju sel k tl ⟨vf,vo,vb⟩ rfl e eg nd hF ho x
theorem gz (sel:List Nat) (k:Nat) (tl:aq) (v:cI) (hw:v=⟨vf,vo,vb⟩) (e:(r.V.toRF,r.old,r.eqs,r.gl.all GenState.bare,r.doneV sel k)=((vc w P cs pf old H F n t₀ gg d os R).toRF,old,dup r.eqs,true,(cI.mk vf vo vb).x tl)) (eg:(r.V.gg,r.gl)=(gg,[])) (nd:sel.Nodup) (hF:F=(vo.take F.length).map (·.1)) (ho:∀ y∈vb,y)
 (x:∀ h t,ag (KP w P) H h F (vo++tl) old→R vf ⟨h,gg,d,t,os⟩):r.FineOf (vc w P cs pf old H F n t₀ gg d os R):=ju sel k tl ⟨vf,vo,vb⟩ rfl e eg nd (dc hF) ho x
theorem m9 (A₀:Around) (sel:List Nat) (k:Nat) (tl:aq) (v:dK) (hw:v=⟨vc₁,vl,vh,vo,vb⟩) (e:(r.V.toRF,r.old,r.eqs,r.gl.all GenState.bare,r.loopV A₀ sel k)=((vc w P cs pf old H F n t₀ gg d os R).toRF,old,dup r.eqs,true,(dK.mk vc₁ vl vh vo vb).x tl)) (nd:sel.Nodup) (hF:F=(vo.take F.length).map (·.1)) (hle:vl=true) (hh:vh=A₀.handled) (hf:A₀.frames=none) (hg:A₀.guards=none) (ho:∀ y∈vb,y)
 (x:∀ h (g:BG) t,ag (KP w P) H h F (vo++tl) old→codeAny (model pg w) A₀ vc₁ R ⟨h,g,d,t,os⟩):r.FineOf (vc w P cs pf old H F n t₀ gg d os R):=ml A₀ sel k tl ⟨vc₁,vl,vh,vo,vb⟩ e nd (dc hF) hle hh hf hg ho x
theorem cE (A₀:Around) (sel:List Nat) (k:Nat) (tl:aq) (v:World→dK) (hw:(v w)=⟨vc₁,vl,vh,vo,vb⟩) (e:(r.V.toRF,r.old,r.eqs,r.gl.all GenState.bare,r.loopV A₀ sel k)=((vc w P cs pf old H F n t₀ gg d os R).toRF,old,dup r.eqs,true,(dK.mk vc₁ vl vh vo vb).x tl)) (nd:sel.Nodup) (hF:∀ a∈F,a∈(vo++tl).map (·.1)) (hle:vl=true) (hh:vh=A₀.handled) (hf:A₀.frames=none) (hg:A₀.guards=none) (ho:∀ y∈vb,y)
 (x:∀ h (g:BG) t,ag (KP w P) H h F (vo++tl) old→codeAny (model pg w) A₀ vc₁ R ⟨h,g,d,t,os⟩):r.FineOf (vc w P cs pf old H F n t₀ gg d os R):=ml A₀ sel k tl ⟨vc₁,vl,vh,vo,vb⟩ e nd hF hle hh hf hg ho x
theorem gP (A₀:Around) (sel:List Nat) (k:Nat) (tl:aq) (v:World→dK) (hw:(v w)=⟨vc₁,vl,vh,vo,vb⟩) (e:(r.V.toRF,r.old,r.eqs,r.gl.all GenState.bare,r.tailV A₀ sel k)=((vc w P cs pf old H F n t₀ gg d os R).toRF,old,dup r.eqs,true,(dK.mk vc₁ vl vh vo vb).x tl)) (nd:sel.Nodup) (hF:∀ a∈F,a∈(vo++tl).map (·.1)) (hle:vl=true) (hh:vh=A₀.handled) (hf:A₀.frames=none) (hg:A₀.guards=none) (ho:∀ y∈vb,y)
 (x:∀ h (g:BG) t,ag (KP w P) H h F (vo++tl) old→∀ rr,ER rr r.pop→codeAny (model pg w) A₀ vc₁ (Do w R rr) ⟨h,g,d,t,os⟩):r.FineOf (vc w P cs pf old H F n t₀ gg d os R):=mj A₀ sel k tl ⟨vc₁,vl,vh,vo,vb⟩ e nd hF hle hh hf hg ho λ h g t _ L m=>Fy (x h g t L _ ⟨m,rfl⟩)
theorem mD (A₀:Around) (sel:List Nat) (k:Nat) (tl:aq) (v:dK) (hw:v=⟨vc₁,vl,vh,vo,vb⟩) (e:(r.V.toRF,r.old,r.eqs,r.gl.all GenState.bare,r.tailV A₀ sel k)=((vc w P cs pf old H F n t₀ gg d os R).toRF,old,dup r.eqs,true,(dK.mk vc₁ vl vh vo vb).x tl)) (eg:r.V.gg=gg) (gl':List GenState) (egl:r.gl=gl') (nd:sel.Nodup) (hF:F=(vo.take F.length).map (·.1)) (hle:vl=true) (hh:vh=A₀.handled) (hf:A₀.frames=none) (hg:A₀.guards=none) (ho:∀ y∈vb,y)
  (x:∀ h t,ag (KP w P) H h F (vo++tl) old→∀ rr,ER rr r.pop→codeAny (model pg w) A₀ vc₁ (Do w R rr) ⟨h,tN gg gl',d,t,os⟩):r.FineOf (vc w P cs pf old H F n t₀ gg d os R):=mj A₀ sel k tl ⟨vc₁,vl,vh,vo,vb⟩ e nd (dc hF) hle hh hf hg ho λ h g t q L=>by
 rw [←q,lr (V:=vc w P cs pf old H F n t₀ gg d os R) eg egl,mn];exact λ m=>Fy (x h t L _ ⟨m,rfl⟩)
theorem gU (A₀:Around) (sel:List Nat) (k:Nat) (tl:aq) (v:World→dK) (hw:(v w)=⟨vc₁,vl,vh,vo,vb⟩) (e:(r.V.toRF,r.old,r.eqs,r.gl.all GenState.bare,r.waitV A₀ sel k)=((vc w P cs pf old H F n t₀ gg d os R).toRF,old,dup r.eqs,true,(dK.mk vc₁ vl vh vo vb).xc tl)) (nd:sel.Nodup) (hF:∀ a∈F,a∈(vo++tl).map (·.1)) (hle:vl=true) (hh:vh=A₀.handled) (hf:A₀.frames=none) (hg:A₀.guards=none) (ho:∀ y∈vb,y)
  (x:∀ h (g:BG) t,ag (KP w P) H h F (vo++tl) old→∀ rr,ER rr r→codeAny (model pg w) A₀ vc₁ (Do w R rr) ⟨h,g,d,t,os⟩):r.FineOf (vc w P cs pf old H F n t₀ gg d os R):=
 jh A₀ _ sel k tl ⟨vc₁,vl,vh,none,vo,vb⟩ e nd hF (λ _ a b _=>fZ (a.trans hle) (b.trans hh) hf hg) ho λ h g t _ L m=>Fy (x h g t L _ ⟨m,rfl⟩)
theorem lW (A₀:Around) (sel:List Nat) (k:Nat) (tl:aq) (v:dK) (hw:v=⟨vc₁,vl,vh,vo,vb⟩) (e:(r.V.toRF,r.old,r.eqs,r.gl.all GenState.bare,r.waitV A₀ sel k)=((vc w P cs pf old H F n t₀ gg d os R).toRF,old,dup r.eqs,true,(dK.mk vc₁ vl vh vo vb).xc tl)) (eg:r.V.gg=gg) (gl':List GenState) (egl:r.gl=gl') (nd:sel.Nodup) (hF:F=(vo.take F.length).map (·.1)) (hle:vl=true) (hh:vh=A₀.handled) (hf:A₀.frames=none) (hg:A₀.guards=none) (ho:∀ y∈vb,y)
  (x:∀ h t,ag (KP w P) H h F (vo++tl) old→∀ rr,ER rr r→codeAny (model pg w) A₀ vc₁ (Do w R rr) ⟨h,tN gg gl',d,t,os⟩):r.FineOf (vc w P cs pf old H F n t₀ gg d os R):=
 jh A₀ _ sel k tl ⟨vc₁,vl,vh,none,vo,vb⟩ e nd (dc hF) (λ _ a b _=>fZ (a.trans hle) (b.trans hh) hf hg) ho λ h g t q L=>by
  rw [←q,lr (V:=vc w P cs pf old H F n t₀ gg d os R) eg egl,mn];exact λ m=>Fy (x h t L _ ⟨m,rfl⟩)
theorem sJ (A₀:Around) (sel:List Nat) (k:Nat) (tl:aq) {vg:Option (List Env)}(v:lD) (hw:v=⟨vc₁,vl,vh,vg,vo,vb⟩) (e:(r.V.toRF,r.old,r.eqs,r.gl.all GenState.bare,r.waitF A₀ sel k)=((vc w P cs pf old H F n t₀ gg d os R).toRF,old,dup r.eqs,true,(lD.mk vc₁ vl vh vg vo vb).x tl)) (nd:sel.Nodup) (hF:∀ a∈F,a∈(vo++tl).map (·.1)) (hle:vl=true) (hh:vh=A₀.handled) (hf:A₀.frames=vg) (hg:A₀.guards=none) (ho:∀ y∈vb,y)
  (x:∀ h (g:BG) t,ag (KP w P) H h F (vo++tl) old→∀ rr,ER rr r→codeAny (model pg w) A₀ vc₁ (Do w R rr) ⟨h,g,d,t,os⟩):r.FineOf (vc w P cs pf old H F n t₀ gg d os R):=
 jh A₀ _ sel k tl ⟨vc₁,vl,vh,vg,vo,vb⟩ e nd hF (λ _ a b c=>xx (a.trans hle) (b.trans hh) (hf.trans c.symm) hg) ho λ h g t _ L m=>Fy (x h g t L _ ⟨m,rfl⟩)
end
set_option backward.match.sparseCases true
noncomputable def Fh (id:String) (c:Code) (k:List Value→CR):CR:=match c with
 |.builtin i a=>match a with
  |⟨as,kw⟩=>match kw with
   |[]=>if i=id then k as else .no
   |_=>.no
 |_=>.no
theorem rh {id:String}{k:List Value→CR}{r:Ag}(h:Fh id c k=.ok r):∃ as,c=.builtin id ⟨as,[]⟩∧k as=.ok r:=by
 unfold Fh at h
 split at h
 ·split at h
  ·split at h
   ·split at h
    ·rename_i e;subst e;exact ⟨_,rfl,h⟩
    ·cases h
   ·cases h
 ·cases h
noncomputable def look (e:LE) (l:List Nat) (a:Addr) (k:Addr→Obj→List Nat→CR):CR:=match l with
 |[]=>.need a
 |i::l'=>match e.at i with
  |some y=>match y with
   |(a',o)=>k a' o l'
  |none=>.no
theorem Hc {l:List Nat}{k:Addr→Obj→List Nat→CR}{r:Ag}(h:look e l a k=.ok r):∃ i l' a' o,e.at i=some (a',o)∧k a' o l'=.ok r:=by
 unfold look at h
 split at h
 ·cases h
 ·split at h
  ·rename_i y hy;obtain ⟨a',o⟩:=y;exact ⟨_,_,_,_,hy,h⟩
  ·cases h
noncomputable def C3 (e:LE) (l:List Nat) (a:Addr) (k:Nat→Addr→Obj→List Nat→CR):CR:=match l with
 |[]=>.need a
 |i::l'=>match e.own[i]? with
  |some y=>match y with
   |(a',o)=>k i a' o l'
  |none=>.no
theorem GL {l:List Nat}{k:Nat→Addr→Obj→List Nat→CR}{r:Ag}(h:C3 e l a k=.ok r):∃ i l' a' o,e.own[i]?=some (a',o)∧k i a' o l'=.ok r:=by
 unfold C3 at h
 split at h
 ·cases h
 ·split at h
  ·rename_i y hy;obtain ⟨a',o⟩:=y;exact ⟨_,_,_,_,hy,h⟩
  ·cases h
noncomputable def ad (o:Obj):VA:=match o.data with|.seq xs _=>xs|_=>#[]
noncomputable def ao (o:Obj):Nat:=match o.data with|.seq _ n=>n|_=>0
noncomputable def bm (o:Obj) (i:Nat):Value:=match o.data with|.fields vs=>vs.getD i .none|_=>.none
noncomputable def mt (v:Value):Addr:=match v with|.ref a=>a|_=>0
noncomputable def jG (o:Obj) (xs:VA):Obj:=⟨o.cls,o.dict,.seq xs (ao o),o.slots⟩
section
variable {A:Around}{s:Shared}
theorem bw {id:String}{b:Builtin}{S:PySem.Spec}(hp:plainId id=true) (hb:entryFor table id=some b) (g:Meets (b args) S) (h:S A R s):codeAny (model pg w) A (.builtin id args) R s:=
 dt hb (by rw [i0 hp];exact g pg w A R s h)
end
noncomputable abbrev oW:Nat:=100000
noncomputable def sW (c:Code) (e:LE) (r:Ag):Prop:=∀ (w:World) (P:KF),(∀ y∈r.eqs,y.holds)→(∀ y∈r.obs,y)→∀ H F h (g:BG) d t os R,ag (KP w P) H h F e.own e.old→(∀ p∈e.pf,KP w P p.1=some p.2)→
 (∀ as h' (g':BG) t',(true=true→g'=g)→ag (KP w P) H h' F (r.own as) e.old→R (r.res as) ⟨h',g',d,t',os⟩)→codeAny (model pg w) ⟨none,oW,none,none,oW⟩ c R ⟨h,g,d,t,os⟩
noncomputable abbrev CY (c:Code) (e:LE):Type:={ x:CR // ∀ r,x=.ok r→sW c e r }
noncomputable abbrev CX (id:String) (as:List Value) (e:LE):Type:=CY (.builtin id ⟨as,[]⟩) e
section
variable {id:String}
noncomputable def cG:CY c e:=⟨.no,λ _ h=>nomatch h⟩
noncomputable def uz (a:Addr):CY c e:=⟨.need a,λ _ h=>nomatch h⟩
noncomputable def jz (r:Ag) (h:sW c e r):CY c e:=⟨.ok r,λ _ q=>CR.ok.inj q▸h⟩
noncomputable def cH (e:LE) (l:List Nat) (a:Addr) (k:(i:Nat)→(a':Addr)→(o:Obj)→List Nat→e.at i=some (a',o)→CY c e):CY c e:=match l with
 |[]=>uz a
 |i::l'=>match q:e.at i with
  |some y=>k i y.1 y.2 l' q
  |none=>cG
noncomputable def gR (e:LE) (l:List Nat) (a:Addr) (k:(i:Nat)→(a':Addr)→(o:Obj)→List Nat→e.own[i]?=some (a',o)→CY c e):CY c e:=match l with
 |[]=>uz a
 |i::l'=>match q:e.own[i]? with
  |some y=>k i y.1 y.2 l' q
  |none=>cG
noncomputable def ef (id:String) (f:(as:List Value)→(l:List Nat)→(e:LE)→CX id as e):Ct:=⟨oW,oW,true,λ c l e=>Fh id c λ as=>(f as l e).1⟩
theorem bH (f:(as:List Value)→(l:List Nat)→(e:LE)→CX id as e) (w:World) (P:KF):cT pg w (KP w P) (ef id f):=by
 intro c l e r hr hq ho
 have hr:Fh id c (λ as=>(f as l e).1)=.ok r:=hr
 obtain ⟨as,hc,hr⟩:=rh hr
 rw [hc]
 exact (f as l e).2 r hr w P hq ho
end
theorem bS:2000≤sizeLine:=by unfold sizeLine;lia
noncomputable def vM (as:List Value) (l:List Nat) (e:LE):CX "list.append" as e:=match as with
 |[p,v]=>match p with
  |.ref a=>gR e l a λ i a' o l' hi=>jz ⟨λ _=>.ok (.ret .none),λ z=>e.own.set i (a',ab ((ad o).push v) (z 0)),[.v (.ref a) (.ref a'),.o o (ab (ad o) (ao o))],[(ad o).size≤1000]⟩ λ w P hq ho H F' h g d t os R L hp x=>by
   have e1:a=a':=bz (hq _ (.head _))
   have e2:o=ab (ad o) (ao o):=hq _ bU
   have e3:(ad o).size≤1000:=ho _ (.head _)
   subst e1
   rw [e2] at hi
   have hh:=L.ownAt _ _ _ hi
   refine bw (F.slot_list_append).plain F.entry_list_append (AutoListH.list_append_list_val_0 a (ad o) (ao o) v (cP e3 (cP (by lia) bS))) ⟨hh,?_⟩
   have eo:Obj.mapSeq (λ x=>x.push v) (ab (ad o) (ao o))=ab ((ad o).push v) (if ((ad o).push v).size==(ad o).size then ao o else ao o+1):=rfl
   exact x (λ _=>if ((ad o).push v).size==(ad o).size then ao o else ao o+1) _ _ _ (λ _=>rfl) (L.update hi eo rfl)
  |_=>cG
 |_=>cG
noncomputable def o5:Ct:=ef "list.append" vM
theorem p2 (w:World) (P:KF):cT pg w (KP w P) o5:=bH _ w P
noncomputable abbrev c8 (x left step:Int):Obj:=⟨.type "range_iterator",none,.fields #[.int x 0,.int left 0,.int step 0],#[]⟩
noncomputable def zW (i n:Nat) (as:List Value) (l:List Nat) (e:LE):CX "range_iterator.__next__" as e:=match as with
 |[p]=>match p with
  |.ref a=>gR e l a λ j a' o l' hi=>jz ⟨λ z=>.ok (.ret (.int i (z 0))),λ z=>e.own.set j (a',c8 ((i+1:Nat):Int) ((n:Int) - ((i+1:Nat):Int)) 1),[.v (.ref a) (.ref a'),.o o (c8 i ((n:Int) - i) 1)],[i < n]⟩ λ w P hq ho H F' h g d t os R L hp x=>by
   have e1:a=a':=bz (hq _ (.head _))
   have e2:o=c8 i ((n:Int) - i) 1:=hq _ bU
   have e3:i < n:=ho _ (.head _)
   subst e1 e2
   have hh:=L.ownAt _ _ _ hi
   refine bw (F.slot_range_iterator_next).plain F.entry_range_iterator_next (AutoRange.range_iterator___next___range_iterator_1 a (i:Int) ((n:Int) - i) 1 (by lia)) ⟨hh,?_⟩
   have L1:=L.update (f:=Obj.mapFields λ x_1=>x_1.setIfInBounds 0 (rawInt ((i:Int)+1))) (o':=c8 ((i+1:Nat):Int) ((n:Int) - i) 1) hi rfl rfl
   have hi1:(e.own.set j (a,c8 ((i+1:Nat):Int) ((n:Int) - i) 1))[j]?=some (a,c8 ((i+1:Nat):Int) ((n:Int) - i) 1):=List.getElem?_set_self (j0.mp hi).1
   have eo:Obj.mapFields (λ x=>x.setIfInBounds 1 (rawInt ((n:Int) - i - 1))) (c8 ((i+1:Nat):Int) ((n:Int) - i) 1)=c8 ((i+1:Nat):Int) ((n:Int) - ((i+1:Nat):Int)) 1:=by
    have:(n:Int) - i - 1=(n:Int) - ((i+1:Nat):Int):=by lia
    rw [this];rfl
   have L2:=L1.update hi1 eo rfl
   rw [List.set_set] at L2
   exact x (λ _=>t) _ _ _ (λ _=>rfl) L2
  |_=>cG
 |_=>cG
noncomputable def uU (i n:Nat):Ct:=ef "range_iterator.__next__" (zW i n)
theorem rC (w:World) (P:KF) (i n:Nat):cT pg w (KP w P) (uU i n):=bH _ w P
noncomputable def rc (z:Nat→Nat) (l:aq):aq:=(z 0,eX (z 1))::(z 1,sF)::l
theorem oj {A:Around}{t:Nat}{Q:α→Shared→Prop}(hh:A.handled=none)
  (x:E (.ref (h.push sF).objs.size) ⟨(h.push sF).push (eX h.objs.size),g,d,t,os⟩):
  wpAny (model pg w) A.in1 (newExc (.type "StopIteration") []>>=λ e=>(raiseNew e:Sem α)) Q E ⟨h,g,d,t,os⟩:=by
 refine af ?_
 simp only [newExc,newTuple]
 refine af (wpAny_newObj_type ?_ (by size_fits))
 refine af (m:=firstArgMember _ _) (wpAny_of_eq (a:=Value.none) (by first|rfl|(simp only [firstArgMember];rfl)) ?_)
 refine wpAny_newObj_type ?_ (by size_fits)
 simp only [raiseNew]
 refine af (wpAny_handled ?_)
 rw [show A.in1.handled=none from hh]
 refine af (aA (wpAny_throw ?_))
 rw [←zg] at x
 exact x
noncomputable def CD (n:Nat) (as:List Value) (l:List Nat) (e:LE):CX "range_iterator.__next__" as e:=match as with
 |[p]=>match p with
  |.ref a=>gR e l a λ j a' o l' hi=>jz ⟨λ z=>.error (.ref (z 0)),λ z=>rc z e.own,[.v (.ref a) (.ref a'),.o o (c8 n ((n:Int) - n) 1)],[]⟩ λ w P hq ho H F' h g d t os R L hp x=>by
   have e1:a=a':=bz (hq _ (.head _))
   have e2:o=c8 n ((n:Int) - n) 1:=hq _ bU
   subst e1 e2
   have hit:=L.ownAt _ _ _ hi
   refine dt F.entry_range_iterator_next ?_
   rw [i0 (F.slot_range_iterator_next).plain]
   show wpAny _ _ (field (.ref a) 0>>=_) _ _ _
   refine af (wpAny_field hit rfl (x:=rawInt n) rfl ?_)
   show wpAny _ _ (field (.ref a) 1>>=_) _ _ _
   refine af (wpAny_field hit rfl (x:=rawInt ((n:Int) - n)) rfl ?_)
   show wpAny _ _ (field (.ref a) 2>>=_) _ _ _
   refine af (wpAny_field hit rfl (x:=rawInt 1) rfl ?_)
   show wpAny _ _ (if (n:Int) - n≤0 then _ else _) _ _ _
   rw [if_pos (by lia)]
   refine af (wpAny_rule ?_)
   refine af ?_
   refine oj (A:=⟨none,oW,none,none,oW⟩) rfl ?_
   exact x (λ k=>match k with|0=>(h.push sF).objs.size|_=>h.objs.size) _ _ _ (λ _=>rfl) ((L.pushed sF rfl).pushed (eX h.objs.size) rfl)
  |_=>cG
 |_=>cG
noncomputable def yy (n:Nat):Ct:=ef "range_iterator.__next__" (CD n)
theorem vw (w:World) (P:KF) (n:Nat):cT pg w (KP w P) (yy n):=bH _ w P
noncomputable def BE (xs:VA) (i:Nat) (v:Value) (as:List Value) (l:List Nat) (e:LE):CX "list_iterator.__next__" as e:=match as with
 |[p]=>match p with
  |.ref a=>gR e l a λ j a' o l' hi=>cH e l' (mt (bm o 0)) λ j2 b ol l2 hj=>jz ⟨λ _=>.ok (.ret v),λ z=>e.own.set j (a',cr b ((i+1:Nat):Int)),[.v (.ref a) (.ref a'),.o o (cr b i),.o ol (jG ol xs)],[xs[i]?=some v]⟩ λ w P hq ho H F' h g d t os R L hp x=>by
   have e1:a=a':=bz (hq _ (.head _))
   have e2:o=cr b i:=hq _ bU
   have e3:ol=jG ol xs:=hq _ fG
   have e4:xs[i]?=some v:=ho _ (.head _)
   subst e1 e2
   have hit:=L.ownAt _ _ _ hi
   have hl:=LE.get L hp hj
   refine dt entry_listiter_next ?_
   rw [i0 slot_listiter_next.plain]
   show wpAny _ _ (field (.ref a) 0>>=_) _ _ _
   refine af (wpAny_field hit rfl (x:=.ref b) rfl ?_)
   show wpAny _ _ (if (Value.ref b==Value.none)=true then _ else _) _ _ _
   rw [if_neg (show ¬ ((Value.ref b==Value.none)=true) from Bool.false_ne_true)]
   show wpAny _ _ (field (.ref a) 1>>=_) _ _ _
   refine af (wpAny_field hit rfl (x:=.int i 0) rfl ?_)
   show wpAny _ _ (seqItems? (.ref b)>>=_) _ _ _
   have hdat:ol.data=.seq xs (ao ol):=by rw [e3];rfl
   refine af (wpAny_seqItems hl hdat ?_)
   simp only [Int.toNat_natCast,e4]
   refine af (wpAny_setField hit rfl (by simp) (aA ?_))
   exact x id _ _ _ (λ _=>rfl) (L.update hi rfl rfl)
  |_=>cG
 |_=>cG
noncomputable def zD (xs:VA) (i:Nat) (v:Value):Ct:=ef "list_iterator.__next__" (BE xs i v)
theorem wU (w:World) (P:KF) (xs:VA) (i:Nat) (v:Value):cT pg w (KP w P) (zD xs i v):=bH _ w P
noncomputable def E3 (xs:VA) (as:List Value) (l:List Nat) (e:LE):CX "list_iterator.__next__" as e:=match as with
 |[p]=>match p with
  |.ref a=>gR e l a λ j a' o l' hi=>cH e l' (mt (bm o 0)) λ j2 b ol l2 hj=>jz ⟨λ z=>.error (.ref (z 0)),λ z=>rc z (e.own.set j (a',⟨.type "list_iterator",none,.fields #[.none,.int xs.size 0],#[]⟩)),[.v (.ref a) (.ref a'),.o o (cr b xs.size),.o ol (jG ol xs)],[]⟩ λ w P hq ho H F' h g d t os R L hp x=>by
   have e1:a=a':=bz (hq _ (.head _))
   have e2:o=cr b xs.size:=hq _ bU
   have e3:ol=jG ol xs:=hq _ fG
   have e4:xs[xs.size]?=none:=by simp
   subst e1 e2
   have hit:=L.ownAt _ _ _ hi
   have hl:=LE.get L hp hj
   refine dt entry_listiter_next ?_
   rw [i0 slot_listiter_next.plain]
   show wpAny _ _ (field (.ref a) 0>>=_) _ _ _
   refine af (wpAny_field hit rfl (x:=.ref b) rfl ?_)
   show wpAny _ _ (if (Value.ref b==Value.none)=true then _ else _) _ _ _
   rw [if_neg (show ¬ ((Value.ref b==Value.none)=true) from Bool.false_ne_true)]
   show wpAny _ _ (field (.ref a) 1>>=_) _ _ _
   refine af (wpAny_field hit rfl (x:=.int xs.size 0) rfl ?_)
   show wpAny _ _ (seqItems? (.ref b)>>=_) _ _ _
   have hdat:ol.data=.seq xs (ao ol):=by rw [e3];rfl
   refine af (wpAny_seqItems hl hdat ?_)
   simp only [Int.toNat_natCast,e4]
   refine af (wpAny_rule (af (wpAny_setField hit rfl (by simp) ?_)))
   refine oj (A:=⟨none,oW,none,none,oW⟩) rfl ?_
   have L1:ag _ _ _ _ (e.own.set j (a,⟨.type "list_iterator",none,.fields #[.none,.int xs.size 0],#[]⟩)) e.old:=L.update (f:=Obj.mapFields λ x=>x.setIfInBounds 0 Value.none) hi rfl rfl
   exact x (λ k=>match k with|0=>_|_=>_) _ _ _ (λ _=>rfl) ((L1.pushed sF rfl).pushed (eX _) rfl)
  |_=>cG
 |_=>cG
noncomputable def CS (xs:VA):Ct:=ef "list_iterator.__next__" (E3 xs)
theorem xy (w:World) (P:KF) (xs:VA):cT pg w (KP w P) (CS xs):=bH _ w P
theorem nM {k k':Int}{v:Value}{j2:Nat}{o:Obj}(hj:e.at j2=some (a',o)):sW (.builtin "list.__getitem__" ⟨[.ref a,.int k' tk],[]⟩) e ⟨λ _=>.ok (.ret v),λ _=>e.own,[.v (.int k' 0) (.int k 0),.v (.ref a) (.ref a'),.o o (ab xs (ao o))],[0≤k∧k < 2 ^ 63,xs[k.toNat]?=some v]⟩:=λ w P hq ho H F' h g d t os R L hp x=>by
 have e0:k'=k:=by have:=hq _ (.head _);exact (Value.int.inj this).1
 have e1:a=a':=bz (hq _ bU)
 have e2:o=ab xs (ao o):=hq _ fG
 obtain ⟨h0,hfit⟩:0≤k∧k < 2 ^ 63:=ho _ (.head _)
 have e4:xs[k.toNat]?=some v:=ho _ bU
 subst e0 e1
 have hl:=LE.get L hp hj
 refine dt entry_list_getitem ?_
 rw [i0 slot_list_getitem.plain]
 show wpAny _ _ (Builtin.List.listSubscript? (.int k' tk)>>=_) _ _ _
 refine af (wpAny_listSubscript_int (fitsIndex_of h0 hfit) ?_)
 clear hfit
 obtain ⟨jj,rfl⟩:=Int.eq_ofNat_of_zero_le h0
 have hx':xs[jj]?=some v:=e4
 have hdat:o.data=.seq xs (ao o):=by rw [e2];rfl
 show wpAny _ _ ((seqItemAt a jj>>=λ r=>pure (r.map (jj,·)))>>=_) _ _ _
 refine af (af (wpAny_seqItemAt hl hdat (aA ?_)))
 rw [hx']
 first
  |exact af (aA (aA (x id _ _ _ (λ _=>rfl) L)))
  |exact aA (x id _ _ _ (λ _=>rfl) L)
noncomputable def D5 (xs:VA) (k:Int) (v:Value) (as:List Value) (l:List Nat) (e:LE):CX "list.__getitem__" as e:=match as with
 |[p,q]=>match p with
  |.ref a=>match q with
   |.int k' tk=>cH e l a λ j2 a' o l2 hj=>jz _ (nM (xs:=xs) (k:=k) (v:=v) hj)
   |_=>cG
  |_=>cG
 |_=>cG
noncomputable def Dk (xs:VA) (k:Int) (v:Value):Ct:=ef "list.__getitem__" (D5 xs k v)
theorem xt (w:World) (P:KF) (xs:VA) (k:Int) (v:Value):cT pg w (KP w P) (Dk xs k v):=bH _ w P
noncomputable abbrev aN:dQ w P:=⟨o5,p2 w P⟩
noncomputable abbrev b9 (i n:Nat):dQ w P:=⟨uU i n,rC w P i n⟩
noncomputable abbrev yj (n:Nat):dQ w P:=⟨yy n,vw w P n⟩
noncomputable abbrev dl (xs:VA) (i:Nat) (v:Value):dQ w P:=⟨zD xs i v,wU w P xs i v⟩
noncomputable abbrev yb (xs:VA):dQ w P:=⟨CS xs,xy w P xs⟩
noncomputable abbrev d5 (xs:VA) (k:Int) (v:Value):dQ w P:=⟨Dk xs k v,xt w P xs k v⟩
set_option backward.match.sparseCases false
theorem cX {a:Int}(h0:0≤a) (h1:a < 2 ^ 62):Builtin.Range.rangeFitsLong a=true:=by
 unfold Builtin.Range.rangeFitsLong
 simp only [Bool.and_eq_true,decide_eq_true_eq]
 lia
theorem uJ (n:Nat):Builtin.Range.rangeSize 0 n 1=n:=by
 unfold Builtin.Range.rangeSize
 simp
 lia
noncomputable def yX (n:Nat) (as:List Value) (l:List Nat) (e:LE):CX "range.__iter__" as e:=match as with
 |[p]=>match p with
  |.ref a=>cH e l a λ j a' o l' hi=>jz ⟨λ z=>.ok (.ret (.ref (z 0))),λ z=>(z 0,c8 ((0:Nat):Int) ((n:Int) - ((0:Nat):Int)) 1)::e.own,
   [.v (.ref a) (.ref a'),.o o ⟨.type "range",none,.fields #[.int 0 (match bm o 0 with|.int _ t=>t|_=>0),.int n (match bm o 1 with|.int _ t=>t|_=>0),.int 1 (match bm o 2 with|.int _ t=>t|_=>0)],#[]⟩],[n < 1000]⟩ λ w P hq ho H F' h g d t os R L hp x=>by
   have e1:a=a':=bz (hq _ (.head _))
   have e2:=hq _ bU
   have e3:n < 1000:=ho _ (.head _)
   subst e1
   generalize (match bm o 0 with|.int _ t=>t|_=>0)=t0 at e2
   generalize (match bm o 1 with|.int _ t=>t|_=>0)=t1 at e2
   generalize (match bm o 2 with|.int _ t=>t|_=>0)=t2 at e2
   have e2':o=⟨.type "range",none,.fields #[.int 0 t0,.int n t1,.int 1 t2],#[]⟩:=e2
   subst e2'
   have hh:=LE.get L hp hi
   have hs:(Builtin.Range.rangeFitsLong 0&&Builtin.Range.rangeFitsLong n&&Builtin.Range.rangeFitsLong 1&&Builtin.Range.rangeFitsLong (Builtin.Range.rangeSize 0 n 1)&&(Builtin.Range.rangeSize 0 n 1==0||if (1:Int) > 0 then Builtin.Range.rangeFitsLong ((n:Int)+(1 - 1)) else Builtin.Range.rangeFitsLong ((n:Int)+(1+1))))=true:=by
    rw [uJ,cX (a:=0) (by omega) (by omega),cX (a:=(n:Int)) (by omega) (by omega),cX (a:=1) (by omega) (by omega)]
    simp
    exact .inr (cX (by omega) (by omega))
   refine bw (F.slot_range_iter).plain F.entry_range_iter (AutoRange.range___iter___range_1 a 0 n 1 t0 t1 t2 (by rw [hs];decide)) ⟨hh,?_⟩
   simp only [hs,if_true]
   rw [uJ]
   have eo:(⟨.type "range_iterator",none,.fields #[rawInt 0,rawInt n,rawInt 1],#[]⟩:Obj)=c8 ((0:Nat):Int) ((n:Int) - ((0:Nat):Int)) 1:=by
    have:(n:Int) - ((0:Nat):Int)=n:=by omega
    rw [this];rfl
   have L1:=L.pushed (c8 ((0:Nat):Int) ((n:Int) - ((0:Nat):Int)) 1) rfl
   rw [←eo] at L1
   have z:=x (λ _=>h.objs.size) _ g t (λ _=>rfl) (by rw [←eo];exact L1)
   exact z
  |_=>cG
 |_=>cG
noncomputable def ub (n:Nat):Ct:=ef "range.__iter__" (yX n)
theorem q0 (w:World) (P:KF) (n:Nat):cT pg w (KP w P) (ub n):=bH _ w P
noncomputable abbrev eI (n:Nat):dQ w P:=⟨ub n,q0 w P n⟩
noncomputable abbrev aU (xs:VA) (n:Nat):Obj:=⟨.type "tuple",none,.seq xs n,#[]⟩
noncomputable abbrev dS (c:Value) (vs:VA):Obj:=⟨c,none,.fields vs,#[]⟩
noncomputable abbrev ak (v:Value):Obj:=⟨.type "cell",none,.cell (some v),#[]⟩
noncomputable abbrev cZ:Obj:=⟨.type "cell",none,.cell none,#[]⟩
noncomputable def HN (w:World) (e:Str×Tok×Value):DictEntry:=⟨kz w e.1,.str e.1 e.2.1,e.2.2⟩
noncomputable abbrev br (w:World) (es:List (Str×Tok×Value)) (n:Nat):Obj:=⟨.type "frame",none,.dict ⟨es.map (HN w)⟩ n,#[]⟩
noncomputable abbrev aJ (w:World) (es:List (Str×Tok×Value)) (n:Nat):Obj:=⟨.type "dict",none,.dict ⟨es.map (HN w)⟩ n,#[]⟩
noncomputable abbrev en (k:Str) (t:Tok) (v:Value):Str×Tok×Value:=(k,t,v)
noncomputable def Hy (sc:Scope):Scope:={ sc with names:=sc.names.map λ p=>match p.2 with|.free=>(p.1,.cell)|_=>p }
noncomputable def Cj (e:PySem.Expr):Scope:=match e with
 |.ListComp _ _ s _=>s
 |.GeneratorExp _ _ s _=>s
 |.Lambda _ _ s _=>s
 |_=>default
noncomputable def hV (e:PySem.Expr) (gf:Addr) (cells:List (Str×Addr)) (q:Str) (code fr:Addr):Env:=
 { scope:=Hy (Cj e),locals:=gf,globals:=3,cells:=cells,qual:=q,func:=none,code:=.ref code,frame:=some fr,builtins:=0 }
noncomputable abbrev fR (e:PySem.Expr) (gf:Addr) (cells:List (Str×Addr)) (fr:Addr):Env:=hV e gf cells "_law_paired.<locals>." 153 fr
noncomputable abbrev oT (e:PySem.Expr) (gf:Addr) (cells:List (Str×Addr)) (fr:Addr):Env:=hV e gf cells "law.<locals>." 158 fr
noncomputable abbrev i4 (ls:Addr) (i:Nat):Obj:=cr ls (i:Int)
noncomputable abbrev jW (i:Nat):Obj:=dS (.type "list_iterator") #[.none,.int (i:Int) 0]
noncomputable abbrev kX (i n:Nat):Obj:=c8 (i:Int) ((n:Int) - (i:Int)) 1
noncomputable abbrev mP (i j:Int) (k:Addr):Obj:=dS .none #[.int i 0,.int j 0,.ref k]
noncomputable abbrev iz (i:Int):Prop:=0≤i∧i < 2 ^ 63
noncomputable def eh (s:Stmt):PySem.Expr:=match s with
 |.Assign _ v _=>v
 |.Return (some v) _=>v
 |.Expr v _=>v
 |_=>default
noncomputable def g7 (js:List (Str×Tok×Value)) (t:Tok):Tok:=match js with
 |[]=>t
 |e::_=>e.2.1
noncomputable def g0 (js:List (Str×Tok×Value)) (n:Nat):Nat:=match js with
 |[]=>n+1
 |_::_=>n
inductive Mk|v (x:Value)|i (x:Int)|s (x:Str)
variable {s:Shared}
noncomputable def Mk.val (m:Mk) (z:Nat):Value:=match m with|.v x=>x|.i x=>.int x z|.s x=>.str x z
noncomputable def Mk.made (m:Mk):Made:=match m with|.v x=>.val x|.i x=>.int x|.s x=>.str x
noncomputable def Mk.room (m:Mk):List Prop:=match m with|.s x=>[x.length≤100000]|_=>[]
structure Ds where
 m:Mk
 q:List E2
 p:List Prop
noncomputable def sk (id:String) (f:List Value→Option Ds):Ct:=⟨oW,oW,true,λ c l e=>Fh id c λ as=>match f as with
 |some r=>.ok ⟨λ z=>.ok (.ret (r.m.val (z 0))),λ _=>e.own,r.q,r.m.room++r.p⟩
 |none=>.no⟩
theorem eA (w:World) (P:KF) {id:String}{B:Builtin}(hp:plainId id=true) (hb:entryFor table id=some B) (f:List Value→Option Ds)
  (g:∀ as r,f as=some r→(∀ y∈r.q,y.holds)→(∀ y∈r.p,y)→Gives (B ⟨as,[]⟩) r.m.made):cT pg w (KP w P) (sk id f):=by
 intro c l e r hr hq ho H F' h gs d t os R L hpf x
 dsimp only [sk] at hr
 obtain ⟨as,rfl,hr2⟩:=rh hr
 replace hr:=hr2
 clear hr2
 try dsimp only at hr
 split at hr
 ·rename_i r' hf
  cases hr
  have z:=g as r' hf hq λ y hy=>ho y (bu _ hy)
  refine dt hb ?_
  rw [i0 hp]
  refine z pg w _ R _ ?_
  have y:=λ t' k=>x (λ _=>k) h gs t' (λ _=>rfl) L
  cases hm:r'.m with
  |v v=>simp only [hm,Mk.val] at y;exact y _ 0
  |i v=>simp only [hm,Mk.val] at y;exact y _ _
  |s v=>
   simp only [hm,Mk.val] at y
   have h1:v.length≤100000:=ho _ (aI _ (by rw [hm];exact .head _))
   exact ⟨cP h1 (by unfold sizeLine;lia),y _ _⟩
 ·cases hr
noncomputable def fF (k:Int→Int→Ds) (as:List Value):Option Ds:=match as with
 |[p,q]=>match p with
  |.int a _=>match q with
   |.int b _=>some (k a b)
   |_=>none
  |_=>none
 |_=>none
theorem de {k:Int→Int→Ds}{as:List Value}{r:Ds}(h:fF k as=some r):∃ a t b u,as=[.int a t,.int b u]∧k a b=r:=by
 unfold fF at h
 split at h
 ·split at h
  ·split at h
   ·exact ⟨_,_,_,_,rfl,bo h⟩
   ·cases h
  ·cases h
 ·cases h
noncomputable def uH:dQ w P:=⟨sk "int.__floordiv__" (fF λ a b=>⟨.i (a.fdiv b),[],[b≠0,Builtin.divisionGoesByPylong a b=false]⟩),
 eA w P (F.slot_int_floordiv).plain F.entry_int_floordiv _ λ as r h hq hp=>by
  obtain ⟨a,t,b,u,rfl,rfl⟩:=de h
  have h1:b≠0:=hp _ (.head _)
  have h2:=hp _ bU
  exact AutoIntG4.int___floordiv___int_int_1 a t b u (by simpa using h1) (by rw [h2];decide)⟩
noncomputable def rn:dQ w P:=⟨sk "int.__mod__" (fF λ a b=>⟨.i (a.fmod b),[],[b≠0]⟩),
 eA w P (F.slot_int_mod).plain F.entry_int_mod _ λ as r h hq hp=>by
  obtain ⟨a,t,b,u,rfl,rfl⟩:=de h
  have h1:b≠0:=hp _ (.head _)
  exact AutoIntG6.int___mod___int_int_1 a t b u (by simpa using h1)⟩
theorem Fs:Builtin.Int.intBits 2=2:=by decide+kernel
noncomputable def Fu:dQ w P:=⟨sk "int.__pow__" (fF λ a b=>⟨.i (2 ^ b.toNat),[.v (.int a 0) (.int 2 0)],[0 < b,b < 100]⟩),
 eA w P (F.slot_int_pow).plain F.entry_int_pow _ λ as r h hq hp=>by
  obtain ⟨a,t,b,u,rfl,rfl⟩:=de h
  have h0:a=2:=(Value.int.inj (hq _ (.head _))).1
  have h1:0 < b:=hp _ (.head _)
  have h2:b < 100:=hp _ bU
  subst h0
  refine AutoIntG2.int___pow___int_int_4 2 t b u (by lia) (by simp;lia) (by decide) (by decide) ?_
  rw [Fs]
  unfold Builtin.Int.intTooBig
  have:(bitsLine:Int)≥1000:=by unfold bitsLine;decide+kernel
  simp;lia⟩
noncomputable def su (a b:Int) (v:Bool):dQ w P:=⟨sk "int.__eq__" (fF λ a' b'=>⟨.v (.bool v),[.v (.int a' 0) (.int a 0),.v (.int b' 0) (.int b 0)],[(a==b)=v]⟩),
 eA w P (F.slot_int_eq).plain F.entry_int_eq _ λ as r h hq hp=>by
  obtain ⟨a',t,b',u,rfl,rfl⟩:=de h
  have e1:a'=a:=(Value.int.inj (hq _ (.head _))).1
  have e2:b'=b:=(Value.int.inj (hq _ bU)).1
  have h1:(a==b)=v:=hp _ (.head _)
  subst e1 e2 h1
  exact AutoIntG7.int___eq___int_int_0 a' t b' u⟩
noncomputable def xe (a b:Int) (v:Bool):dQ w P:=⟨sk "int.__ne__" (fF λ a' b'=>⟨.v (.bool v),[.v (.int a' 0) (.int a 0),.v (.int b' 0) (.int b 0)],[(a !=b)=v]⟩),
 eA w P (F.slot_int_ne).plain F.entry_int_ne _ λ as r h hq hp=>by
  obtain ⟨a',t,b',u,rfl,rfl⟩:=de h
  have e1:a'=a:=(Value.int.inj (hq _ (.head _))).1
  have e2:b'=b:=(Value.int.inj (hq _ bU)).1
  have h1:(a !=b)=v:=hp _ (.head _)
  subst e1 e2 h1
  exact AutoIntG6.int___ne___int_int_0 a' t b' u⟩
theorem ae:∀ y∈([]:List Prop),y:=λ _ h=>nomatch h
theorem aa {p:Prop}{l:List Prop}(h:p) (t:∀ y∈l,y):∀ y∈p::l,y:=f0.mpr ⟨h,t⟩
structure FR where
 code:Code
 own:aq
 old:aq
 pf:aq
 res:(Nat→Nat)→Result
 upd:(Nat→Nat)→List Obj
 new:(Nat→Nat)→aq
 fam:(Nat→Nat)→aq
 obs:List Prop
variable {new:aq}{res:Value}
structure Sp where
 dp:Nat
 un:Nat
 pg:Bool
 next:Code→List (Addr×Obj)→Option (Nat×Addr)
 fin:Code→List (Addr×Obj)→FR
variable {S:Sp}
noncomputable def rP (own:aq) (os:List Obj):aq:=List.zipWith (λ p o=>(p.1,o)) own os
noncomputable def lN (own:aq):List Nat→aq→aq
 |i::is,p::ps=>lN (own.set i p) is ps
 |_,_=>own
noncomputable def je:List Nat→Bool
 |[]=>true
 |i::l=>!(l.any (Nat.beq i))&&je l
noncomputable def Df (S:Sp) (c:Code) (e:LE) (fd:List (Nat×Nat×Addr×Addr×Obj)):Ag:=
 let r:=S.fin c (fd.reverse.map λ x=>x.2.2.2)
 let w:=fd.reverse.filter λ x=>Nat.beq x.1 0
 let o:=fd.reverse.filter λ x=>Nat.beq x.1 1
 let p:=fd.reverse.filter λ x=>Nat.beq x.1 2
 ⟨r.res,λ as=>r.new as++(lN e.own (w.map λ x=>x.2.1) (rP r.own (r.upd as))++r.fam as),
  .c c r.code::.l (w.map λ x=>x.2.2.2) r.own::.l (o.map λ x=>x.2.2.2) r.old::.l (p.map λ x=>x.2.2.2) r.pf::
   .b (je (fd.map λ x=>x.2.1)) true::[],r.obs⟩
noncomputable def Ab (S:Sp) (c:Code) (e:LE):Nat→List Nat→List (Nat×Nat×Addr×Addr×Obj)→CR
 |0,_,_=>.no
 |n+1,l,fd=>match S.next c (fd.reverse.map λ x=>x.2.2.2) with
  |none=>.ok (Df S c e fd)
  |some q=>match q with
   |(k,a)=>match l with
    |[]=>.need a
    |i::l'=>match Nat.ble 2 k with
     |true=>match Nat.ble 2000 i with
      |true=>match e.at i with
       |some y=>Ab S c e n l' ((2,i,a,y)::fd)
       |none=>.no
      |false=>.no
     |false=>match Nat.blt i (match k with|0=>1000|_=>2000) with
      |true=>match e.at i with
       |some y=>Ab S c e n l' ((k,i,a,y)::fd)
       |none=>.no
      |false=>.no
noncomputable def Gl (S:Sp):Ct:=⟨S.dp,S.un,S.pg,λ c l e=>Ab S c e 60 l []⟩
noncomputable def bO (w:World) (K:KF) (S:Sp):Prop:=∀ (c:Code) (fd:List (Addr×Obj)) (r:FR),S.fin c fd=r→c=r.code→(∀ y∈r.obs,y)→(∀ as,(r.upd as).length=r.own.length)∧
 ∀ (h:Heap) (g:BG) (d:Drawn) (t:Nat) (os:OsState) (R:RP),ag K h h (r.own.map (·.1)) r.own r.old→(∀ p∈r.pf,K p.1=some p.2)→
  (∀ as h' (g':BG) t',(S.pg=true→g'=g)→ag K h h' (r.own.map (·.1)) (rP r.own (r.upd as)++(r.new as++r.fam as)) r.old→R (r.res as) ⟨h',g',d,t',os⟩)→codeAny (model pg w) ⟨none,S.dp,none,none,S.un⟩ r.code R ⟨h,g,d,t,os⟩
theorem ag.perm {F:List Addr}{own:aq}(L:ag K H h F own old) (p:own.Perm own'):ag K H h F own' old:=
 ⟨L.keep,λ q hq=>L.hown q (p.mem_iff.mpr hq),L.hold,((p.append_right old).map _).nodup_iff.mp L.nd,λ a ha=>(p.map _).mem_iff.mp (L.foot a ha),L.kin,λ q hq=>L.off q (p.mem_iff.mpr hq),L.offo⟩
theorem m7:∀ (idx:List Nat) (ps own:aq),(∀ (k i:Nat) (p:Addr×Obj),idx[k]?=some i→ps[k]?=some p→∃ o,own[i]?=some (p.1,o))→(own.map (·.1)).Nodup→
  (lN own idx ps).map (·.1)=own.map (·.1)∧∀ q∈lN own idx ps,q∈ps∨(q∈own∧∀ (k i:Nat) (p:Addr×Obj),idx[k]?=some i→ps[k]?=some p→q.1≠p.1)
 |[],ps,own,_,_=>⟨by simp [lN],λ q hq=>.inr ⟨by simpa [lN] using hq,λ k i p h=>by simp at h⟩⟩
 |i::idx,[],own,_,_=>⟨by simp [lN],λ q hq=>.inr ⟨by simpa [lN] using hq,λ k i p _ h=>by simp at h⟩⟩
 |i::idx,p::ps,own,h,nd=>by
  obtain ⟨o,ho⟩:=h 0 i p rfl rfl
  have e1:(own.set i p).map (·.1)=own.map (·.1):=ez (o':=p.2) ho
  have nd1:((own.set i p).map (·.1)).Nodup:=by rw [e1];exact nd
  have IH:=m7 idx ps (own.set i p) (λ k j q hj hq=>by
   obtain ⟨o2,ho2⟩:=h (k+1) j q hj hq
   by_cases ij:i=j
   ·subst ij
    have hl:i < own.length:=(j0.mp ho).1
    rw [ho] at ho2
    have:p.1=q.1:=congrArg (λ z=>z.1) (bo ho2)
    exact ⟨p.2,by rw [List.getElem?_set_self hl,←this]⟩
   ·exact ⟨o2,by rw [List.getElem?_set_ne ij];exact ho2⟩) nd1
  refine ⟨IH.1.trans e1,λ q hq=>?_⟩
  rcases IH.2 q hq with h1|⟨h1,h2⟩
  ·exact .inl (.tail _ h1)
  ·have hp:own[i]?=some (p.1,o):=ho
   rcases lh (o':=p.2) nd hp h1 with h3|⟨h3,h4⟩
   ·exact .inl (by rw [h3];exact .head _)
   ·refine .inr ⟨h3,λ k j r hj hr=>?_⟩
    induction k with
    |zero=>
     have:p=r:=by simpa using hr
     rw [←this];exact h4
    |succ k=>exact h2 k j r (by simpa using hj) (by simpa using hr)
theorem yM {own:aq}{os:List Obj}(h:os.length=own.length):(rP own os).map (·.1)=own.map (·.1):=by
 unfold rP
 induction own generalizing os with
 |nil=>simp
 |cons p l ih=>
  induction os with
  |nil=>simp at h
  |cons o os=>
   simp at h
   show p.1::List.map _ (List.zipWith _ l os)=p.1::_
   exact congrArg _ (ih h)
theorem C0 {n:Nat}(h:i < n):Nat.blt i n=true:=mV h
theorem ze {n:Nat}(h:¬ i < n):Nat.blt i n=false:=by
 cases hb:Nat.blt i n with
 |false=>rfl
 |true=>exact absurd (bp hb) h
noncomputable abbrev Fd:=Nat×Nat×Addr×Addr×Obj
noncomputable def wy (e:LE) (fd:List Fd):Prop:=∀ x∈fd,e.at x.2.1=some x.2.2.2∧(x.1=0→x.2.1 < 1000)∧(x.1=1→x.2.1 < 2000)∧(x.1=2→2000≤x.2.1)∧x.1≤2
theorem iR:∀ {l:List Nat},je l=true→l.Nodup
 |[],_=>List.nodup_nil
 |i::l,h=>by
  simp only [je,Bool.and_eq_true,Bool.not_eq_true'] at h
  refine List.nodup_cons.mpr ⟨λ hm=>?_,iR h.2⟩
  have:l.any (Nat.beq i)=true:=List.any_eq_true.mpr ⟨i,hm,Nat.beq_refl i⟩
  rw [h.1] at this;cases this
section
variable {F:List Addr}(L:ag K H h F e.own e.old)
include L
theorem kj (hi:i < 1000) (q:e.at i=some y):e.own[i]?=some y:=by
 unfold LE.at at q
 rw [C0 hi] at q
 exact q
theorem mG (h1:¬ i < 1000) (hi:i < 2000) (q:e.at i=some y):e.old[i - 1000]?=some y:=by
 unfold LE.at at q
 rw [ze h1,C0 hi] at q
 exact q
theorem Dq {z:Addr×Obj}(hi:i < 2000) (hj:j < 2000) (ij:i≠j) (qi:e.at i=some y) (qj:e.at j=some z):y.1≠z.1:=by
 obtain ⟨a,o⟩:=y
 obtain ⟨b,p⟩:=z
 by_cases h1:i < 1000
 ·have q1:=kj L h1 qi
  by_cases h2:j < 1000
  ·have q2:=kj L h2 qj
   intro eq
   dsimp only at eq
   subst eq
   exact ij (gG L.ndOwn q1 q2)
  ·exact L.neOld q1 (mG L h2 hj qj)
 ·have q1:=mG L h1 hi qi
  by_cases h2:j < 1000
  ·exact (L.neOld (kj L h2 qj) q1).symm
  ·have q2:=mG L h2 hj qj
   intro eq
   dsimp only at eq
   subst eq
   have nd:=L.nd
   rw [aW] at nd
   have:=gG (bX.mp nd).2.1 q1 q2
   omega
theorem DG (hi:i < 2000) (q:e.at i=some y):K y.1=none:=by
 by_cases h1:i < 1000
 ·exact L.off _ (bQ (kj L h1 q))
 ·exact L.offo _ (bQ (mG L h1 hi q))
theorem Fa (hi:i < 2000) (q:e.at i=some y):h.get? y.1=some y.2:=by
 by_cases h1:i < 1000
 ·exact (L.hown _ (bQ (kj L h1 q))).1
 ·exact L.hold _ (bQ (mG L h1 hi q))
theorem w9 {fd:List Fd}(ok:wy e fd) (nd:(fd.map λ x=>x.2.1).Nodup):
  ag K h h (((fd.filter λ x=>Nat.beq x.1 0).map λ x=>x.2.2.2).map (·.1)) ((fd.filter λ x=>Nat.beq x.1 0).map λ x=>x.2.2.2) ((fd.filter λ x=>Nat.beq x.1 1).map λ x=>x.2.2.2):=by
 have hlt:∀ x∈fd,x.1 < 2→x.2.1 < 2000:=λ x hx h2=>by
  obtain ⟨_,h0,h1,_,_⟩:=ok x hx
  by_cases e0:x.1=0
  ·have:=h0 e0;omega
  ·exact h1 (by lia)
 have both:∀ p∈((fd.filter λ x=>Nat.beq x.1 0).map λ x=>x.2.2.2)++((fd.filter λ x=>Nat.beq x.1 1).map λ x=>x.2.2.2),∃ x∈fd,x.1 < 2∧x.2.2.2=p:=λ p hp=>by
  rcases dm.mp hp with hp|hp
  ·obtain ⟨x,hx,rfl⟩:=aY.mp hp
   obtain ⟨h1,h2⟩:=List.mem_filter.mp hx
   exact ⟨x,h1,by have:=fW h2;omega,rfl⟩
  ·obtain ⟨x,hx,rfl⟩:=aY.mp hp
   obtain ⟨h1,h2⟩:=List.mem_filter.mp hx
   exact ⟨x,h1,by have:=fW h2;omega,rfl⟩
 have pw:∀ (q:Fd→Bool),(∀ x,q x=true→x.1 < 2)→(((fd.filter q).map λ x=>x.2.2.2).map (·.1)).Nodup:=λ q hq=>by
  rw [List.map_map]
  refine List.pairwise_map.mpr ?_
  have n1:(fd.filter q).Pairwise λ x y=>x.2.1≠y.2.1:=(List.pairwise_map.mp nd).filter q
  refine n1.imp_of_mem λ {x y} hx hy hxy=>?_
  obtain ⟨hx1,hx2⟩:=List.mem_filter.mp hx
  obtain ⟨hy1,hy2⟩:=List.mem_filter.mp hy
  exact Dq L (hlt x hx1 (hq x hx2)) (hlt y hy1 (hq y hy2)) hxy (ok x hx1).1 (ok y hy1).1
 refine ag.start L.kin (λ p hp=>?_) ?_ (λ p hp=>?_)
 ·obtain ⟨x,hx,h2,rfl⟩:=both p hp
  exact Fa L (hlt x hx h2) (ok x hx).1
 ·rw [aW]
  refine bX.mpr ⟨pw _ λ x hx=>?_,pw _ λ x hx=>?_,λ a ha b hb=>?_⟩
  ·have:=fW hx;omega
  ·have:=fW hx;omega
  ·obtain ⟨p,hp,rfl⟩:=aY.mp ha
   obtain ⟨x,hx,rfl⟩:=aY.mp hp
   obtain ⟨r,hr,rfl⟩:=aY.mp hb
   obtain ⟨y,hy,rfl⟩:=aY.mp hr
   obtain ⟨hx1,hx2⟩:=List.mem_filter.mp hx
   obtain ⟨hy1,hy2⟩:=List.mem_filter.mp hy
   have kx:=fW hx2
   have ky:=fW hy2
   have hne:x.2.1≠y.2.1:=λ eq=>by
    have n1:=List.pairwise_map.mp nd
    have hxy:x≠y:=λ e=>by rw [e] at kx;omega
    obtain ⟨i,hi,ei⟩:=List.mem_iff_getElem.mp hx1
    obtain ⟨j,hj,ej⟩:=List.mem_iff_getElem.mp hy1
    have z:=List.pairwise_iff_getElem.mp n1
    rcases Nat.lt_trichotomy i j with c|c|c
    ·exact z i j hi hj c (by rw [ei,ej];exact eq)
    ·subst c;exact hxy (ei.symm.trans ej)
    ·exact z j i hj hi c (by rw [ei,ej];exact eq.symm)
   exact Dq L (hlt x hx1 (by omega)) (hlt y hy1 (by omega)) hne (ok x hx1).1 (ok y hy1).1
 ·obtain ⟨x,hx,h2,rfl⟩:=both p hp
  exact DG L (hlt x hx h2) (ok x hx).1
theorem tH {fd:List Fd}(ok:wy e fd) {upd:aq}(e1:((fd.filter λ x=>Nat.beq x.1 0).map λ x=>x.2.2.2)=own0) (eu:upd.map (·.1)=own0.map (·.1))
  (L':ag K h h' (own0.map (·.1)) (upd++new) old0):ag K H h' F (new++lN e.own ((fd.filter λ x=>Nat.beq x.1 0).map λ x=>x.2.1) upd) e.old:=by
 have nd:=L'.ndOwn
 rw [aW] at nd
 obtain ⟨n1,n2,n3⟩:=bX.mp nd
 have P:gB h h' (own0.map (·.1)) new:=L'.mkPost new (λ p hp=>by
  have z:=L'.hown p (bu _ hp)
  refine ⟨z.1,z.2.resolve_left λ hm=>?_⟩
  rw [←eu] at hm
  exact n3 _ hm _ (bW hp) rfl) n2
 have hw:∀ (k i:Nat) (p:Addr×Obj),((fd.filter λ x=>Nat.beq x.1 0).map λ x=>x.2.1)[k]?=some i→upd[k]?=some p→∃ o,e.own[i]?=some (p.1,o):=λ k i p hk hp=>by
  rw [List.getElem?_map] at hk
  cases hx:(fd.filter λ x=>Nat.beq x.1 0)[k]? with
  |none=>rw [hx] at hk;cases hk
  |some x=>
   rw [hx] at hk
   have hi:x.2.1=i:=bo hk
   obtain ⟨hx1,hx2⟩:=List.mem_filter.mp (bQ hx)
   have k0:=fW hx2
   obtain ⟨ha,h0,_⟩:=ok x hx1
   have q:=kj L (h0 k0) ha
   have e2:(own0.map (·.1))[k]?=some x.2.2.2.1:=by rw [←e1,List.map_map,List.getElem?_map,hx];rfl
   rw [←eu,List.getElem?_map,hp] at e2
   have e3:p.1=x.2.2.2.1:=bo e2
   exact ⟨x.2.2.2.2,by rw [←hi,q,e3]⟩
 have S:=m7 _ upd e.own hw L.ndOwn
 have llen:((fd.filter λ x=>Nat.beq x.1 0).map λ x=>x.2.1).length=upd.length:=by
  have a1:=congrArg List.length e1
  have a2:=congrArg List.length eu
  simp at a1 a2
  rw [fH,a2,←a1]
 refine L.after P _ S.1 (λ a ha=>?_) λ q hq=>?_
 ·rw [←eu] at ha
  obtain ⟨p,hp,rfl⟩:=aY.mp ha
  obtain ⟨k,hk⟩:=List.mem_iff_getElem?.mp hp
  have hl:k < upd.length:=(j0.mp hk).1
  obtain ⟨o,ho⟩:=hw k _ p (dT (by rw [llen];exact hl)) hk
  exact bW (f:=(·.1)) (bQ ho)
 ·rcases S.2 q hq with h1|⟨h1,h2⟩
  ·exact (L'.hown q (aI _ h1)).1
  ·refine P.keep _ _ (λ hm=>?_) (L.hown q h1).1
   rw [←eu] at hm
   obtain ⟨p,hp,eq⟩:=aY.mp hm
   obtain ⟨k,hk⟩:=List.mem_iff_getElem?.mp hp
   have hl:k < upd.length:=(j0.mp hk).1
   exact h2 k _ p (dT (by rw [llen];exact hl)) hk eq.symm
end
theorem Az {r:Ag}(n:Nat):∀ (l:List Nat) (fd:List Fd),wy e fd→Ab S c e n l fd=.ok r→∃ fd,wy e fd∧r=Df S c e fd:=by
 induction n with
 |zero=>intro l fd _ hr;cases hr
 |succ n ih=>
  intro l fd ok hr
  unfold Ab at hr
  split at hr
  ·exact ⟨fd,ok,(CR.ok.inj hr).symm⟩
  ·rename_i q hn
   clear hn
   obtain ⟨k,a⟩:=q
   dsimp only at hr
   split at hr
   ·cases hr
   ·split at hr
    ·rename_i hk
     split at hr
     ·rename_i hi
      split at hr
      ·rename_i y hy
       refine ih _ _ (λ x hx=>?_) hr
       clear hr
       rcases bI.mp hx with hx|hx
       ·rw [hx];exact ⟨hy,by simp,by simp,λ _=>bp hi,Nat.le_refl 2⟩
       ·exact ok x hx
      ·cases hr
     ·cases hr
    ·rename_i hk
     have hk':k < 2:=by
      have:¬ 2≤k:=λ c=>by rw [mV c] at hk;cases hk
      omega
     clear hk
     split at hr
     ·rename_i hi
      split at hr
      ·rename_i y hy
       refine ih _ _ (λ x hx=>?_) hr
       clear hr
       rcases bI.mp hx with hx|hx
       ·rw [hx]
        refine ⟨hy,λ h0=>?_,λ h1=>?_,λ h2=>?_,Nat.le_of_lt hk'⟩
        ·rw [show k=0 from h0] at hi
         exact bp hi
        ·rw [show k=1 from h1] at hi
         exact bp hi
        ·rw [show k=2 from h2] at hk';exact absurd hk' (Nat.lt_irrefl 2)
       ·exact ok x hx
      ·cases hr
     ·cases hr
theorem Av (SO:bO w K S):cT pg w K (Gl S):=by
 intro c l e r hr
 obtain ⟨fd,ok,er⟩:=Az 60 l [] (λ _ h=>nomatch h) hr
 rw [er]
 clear er hr
 intro hq ho H F' h g d t os R L hp x
 have ok':wy e fd.reverse:=λ x hx=>ok x (List.mem_reverse.mp hx)
 have e1:c=_:=hq _ (.head _)
 have e2:=hq _ bU
 have e3:=hq _ fG
 have e4:=hq _ jX
 have e5:=iR (hq _ Ae)
 obtain ⟨hl,z⟩:=SO c (fd.reverse.map λ x:Fd=>x.2.2.2) _ rfl e1 ho
 have L0:=w9 L ok' (by rw [List.map_reverse];exact List.pairwise_reverse.mpr (e5.imp Ne.symm))
 change _=_ at e2 e3 e4
 rw [e2,e3] at L0
 have y:=z h g d t os R L0 (λ p hp'=>by
  rw [←e4] at hp'
  obtain ⟨x,hx,ex⟩:=aY.mp hp'
  obtain ⟨hx1,hx2⟩:=List.mem_filter.mp hx
  obtain ⟨ha,_,_,h2,_⟩:=ok' x hx1
  have:=h2 (fW hx2)
  unfold LE.at at ha
  rw [ze (by omega),ze (by omega)] at ha
  rw [←ex]
  exact hp _ (bQ ha)) λ as h' g' t' hg L'=>x as h' g' t' hg ((tH L ok' e2 (yM (hl as)) L').perm (by
  rw [bC]
  exact (jm (l₁:=_) (l₂:=_)).append_left _))
 rw [e1]
 exact y
noncomputable abbrev c0 (S:Sp) (h:bO w (KP w P) S):dQ w P:=⟨Gl S,Av h⟩
section
end
noncomputable def lc (elt target iter:PySem.Expr) (ifs:List PySem.Expr) (sc:Scope) (pos:Pos):PySem.Expr:=.ListComp elt [⟨target,iter,ifs,0⟩] sc pos
noncomputable abbrev AY:Around:=⟨none,600,none,none,2000⟩
noncomputable abbrev AE:Around:=⟨none,950,none,none,6000⟩
noncomputable abbrev AI:Around:=⟨none,700,none,none,2600⟩
section
variable {A:Around}{ls:Addr}{n:Nat}{F:List Addr}{own:aq}
theorem jO (R:RP) (L:ag (KP w P) H hh F ((it,c8 n ((n:Int) - n) 1)::own) old)
  (hR:∀ h' (g':BG) t',ag (KP w P) H h' F ((it,c8 n ((n:Int) - n) 1)::own) old→R (.ok .next) ⟨h',g',dr,t',os⟩):
  codeAny (model pg w) AE (.compLoop (lc elt target iter ifs sc pos) 0 (.ref it) acc env) R ⟨hh,gg,dr,tt,os⟩:=by
 obtain ⟨N,hN⟩:=bd hh
 refine dv [yj n] am [U,.e,U,.c 0 [0],U] L hN λ ps=>?_
 refine iP [2] 3 own ⟨.ok .next,[(it,dS (.type "range_iterator") #[.int ((↑n:Int)) 0,.int ((↑n:Int) - (↑n:Int)) 0,.int 1 0])],[]⟩ rfl (by kernel_rfl) (by decide) L.foot ae λ h' g' t' L'=>?_
 exact hR _ _ _ L'
theorem pa {o:Obj}(R:RP) (L:ag (KP w P) H hh F ((it,cr ls xs.size)::own) ((ls,jG o xs)::old))
  (hR:∀ h' (g':BG) t',ag (KP w P) H h' F ((it,jW xs.size)::own) ((ls,jG o xs)::old)→R (.ok .next) ⟨h',g',dr,t',os⟩):
  codeAny (model pg w) AE (.compLoop (lc elt target iter ifs sc pos) 0 (.ref it) acc env) R ⟨hh,gg,dr,tt,os⟩:=by
 obtain ⟨N,hN⟩:=bd hh
 refine dv [yb xs] am [U,.e,U,.c 0 [0,1000],U] L hN λ ps=>?_
 refine iP [2] 3 own ⟨.ok .next,[(it,jW xs.size)],[]⟩ rfl (by kernel_rfl) (by decide) L.foot ae λ h' g' t' L'=>?_
 exact hR _ _ _ L'
theorem iu {x left step:Int}(R:RP) (hit:hh.get? it=some (c8 x left step))
  (h:codeAny (model pg w) A (.compLoop (lc elt target iter ifs sc pos) 0 (.ref it) acc env) R ⟨hh,gg,dr,tt,os⟩):
  codeAny (model pg w) A (.compStart (lc elt target iter ifs sc pos) 0 (.ref it) acc env) R ⟨hh,gg,dr,tt,os⟩:=
 codeAny_compStart_list h (wpAny_pyIter_rangeiter hit h)
theorem i3 (R:RP) (hit:hh.get? it=some (cr ls i))
  (h:codeAny (model pg w) A (.compLoop (lc elt target iter ifs sc pos) 0 (.ref it) acc env) R ⟨hh,gg,dr,tt,os⟩):
  codeAny (model pg w) A (.compStart (lc elt target iter ifs sc pos) 0 (.ref it) acc env) R ⟨hh,gg,dr,tt,os⟩:=
 codeAny_compStart_list h (by
  have hT:(⟨hh,gg,dr,tt,os⟩:Shared).TypeIs (.ref it) "list_iterator":=⟨_,hit,rfl⟩
  refine wpAny_pyIter_slot hT slot_listiter_iter (wpAny_call_entry slot_listiter_iter hT entry_listiter_iter ?_ (args_listiter_iter _))
  show wpAny _ _ (ret (.ref it)) _ _ _
  exact aA ⟨_,rfl,"list_iterator",_,hT,slot_listiter_next.lookup,h⟩)
end
section
variable {A:Around}
noncomputable def C2 (e:PySem.Expr):PySem.Expr:=match e with|.ListComp x _ _ _=>x|_=>default
noncomputable def Ea (e:PySem.Expr):List Comprehension:=match e with|.ListComp _ g _ _=>g|.GeneratorExp _ g _ _=>g|_=>[]
noncomputable def Gs (e:PySem.Expr):Pos:=match e with|.ListComp _ _ _ p=>p|_=>default
noncomputable def Eo (e:PySem.Expr):Comprehension:=(Ea e).headD default
noncomputable def iU (e:PySem.Expr):PySem.Expr:=lc (C2 e) (Eo e).target (Eo e).iter (Eo e).ifs (Cj e) (Gs e)
noncomputable def Js (x:Str) (js:List (Str×Tok×Value)):Prop:=js=[]∨∃ t v,js=[en x t v]
theorem j3 {d u d' u':Nat}(h1:d≤d') (h2:u≤u'):Ar ⟨none,d,none,none,u⟩ ⟨none,d',none,none,u'⟩:=⟨rfl,h1,.inl rfl,.inl rfl,h2⟩
noncomputable def yv (x:Str) (n:Nat) (V:Nat→Value) (js:List (Str×Tok×Value)):Prop:=(n=0∧js=[])∨(n≠0∧∃ t,js=[en x t (V (n - 1))])
noncomputable def Bm (x:Str) (n:Nat) (t:Tok) (v:Value):List (Str×Tok×Value):=match n with|0=>[]|_+1=>[en x t v]
theorem yv.js {x:Str}{n:Nat}{V:Nat→Value}{js:List (Str×Tok×Value)}(h:yv x n V js):Js x js:=by
 rcases h with ⟨_,h⟩|⟨_,t,h⟩
 ·exact .inl h
 ·exact .inr ⟨t,_,h⟩
theorem yv.is {x:Str}{n:Nat}{V:Nat→Value}{js:List (Str×Tok×Value)}(h:yv x n V js):∃ t,js=Bm x n t (V (n - 1)):=by
 rcases h with ⟨rfl,h⟩|⟨hn,t,h⟩
 ·exact ⟨0,h⟩
 ·induction n with
  |zero=>exact absurd rfl hn
  |succ n=>exact ⟨t,h⟩
theorem lY {A:Around}(hA:Ar A AE) {e:PySem.Expr}{x:Str}{n:Nat}{acc gf:Addr}{an fn:Nat}(J:Nat→VA→aq→Prop) (he:e=iU e) (J0:J 0 #[] [])
  (L:ag (KP w P) H hh [it,acc,gf] [(it,c8 ((0:Nat):Int) ((n:Int) - ((0:Nat):Int)) 1),(acc,ab #[] an),(gf,aJ w [] fn)] old)
  (iX:∀ i,i < n→∀ ys nw an fn js h (g:BG) t,J i ys nw→Js x js→ag (KP w P) H h [it,acc,gf] ([(it,c8 i ((n:Int) - i) 1),(acc,ab ys an),(gf,aJ w js fn)]++nw) old→
   (∀ h' (g':BG) t' ys' nw' an' fn' tj uj,J (i+1) ys' nw'→ag (KP w P) H h' [it,acc,gf] ([(it,c8 (i+1:Nat) ((n:Int) - (i+1:Nat)) 1),(acc,ab ys' an'),(gf,aJ w [en x tj (.int i uj)] fn')]++nw') old→
    codeAny (model pg w) A (.compLoop e 0 (.ref it) (.ref acc) env) R ⟨h',g',dr,t',os⟩)→codeAny (model pg w) A (.compLoop e 0 (.ref it) (.ref acc) env) R ⟨h,g,dr,t,os⟩)
  (fin:∀ h' (g':BG) t' ys nw an fn js u,J n ys nw→yv x n (λ k=>.int k u) js→ag (KP w P) H h' [it,acc,gf] ([(it,c8 n ((n:Int) - n) 1),(acc,ab ys an),(gf,aJ w js fn)]++nw) old→R (.ok .next) ⟨h',g',dr,t',os⟩):
  codeAny (model pg w) A (.compStart e 0 (.ref it) (.ref acc) env) R ⟨hh,gg,dr,tt,os⟩:=by
 have main:∀ k i,i+k=n→∀ ys nw an fn js u h (g:BG) t,J i ys nw→yv x i (λ k=>.int k u) js→ag (KP w P) H h [it,acc,gf] ([(it,c8 i ((n:Int) - i) 1),(acc,ab ys an),(gf,aJ w js fn)]++nw) old→
   codeAny (model pg w) A (.compLoop e 0 (.ref it) (.ref acc) env) R ⟨h,g,dr,t,os⟩:=by
  intro k
  induction k with
  |zero=>
   intro i hi ys nw an fn js u h g t hJ hj L
   have:i=n:=by lia
   obtain rfl:=this.symm
   rw [he]
   exact aM hA (jO R L λ h' g' t' L'=>fin h' g' t' ys nw an fn js u hJ hj L')
  |succ k ih=>
   intro i hi ys nw an fn js u h g t hJ hj L
   exact iX i (by lia) ys nw an fn js h g t hJ hj.js L λ h' g' t' ys' nw' an' fn' tj uj hJ' L'=>ih (i+1) (by lia) ys' nw' an' fn' _ uj h' g' t' hJ' (.inr ⟨by lia,tj,rfl⟩) L'
 rw [he]
 refine iu R (L.ownAt 0 _ _ rfl) ?_
 show codeAny _ _ (.compLoop (iU e) 0 _ _ env) _ _
 rw [←he]
 exact main n 0 (by lia) #[] [] an fn [] 0 hh gg tt J0 (.inl ⟨rfl,rfl⟩) L
noncomputable def nQ (c:Code):Addr:=match c with|.compStart _ _ v _ _=>mt v|_=>0
noncomputable def j5 (c:Code):Addr:=match c with|.compStart _ _ _ v _=>mt v|_=>0
noncomputable def iK (c:Code):Env:=match c with|.compStart _ _ _ _ e=>e|.func _ e=>e|.forLoop _ _ _ _ e=>e|_=>default
noncomputable def Di (c:Code) (i:Nat):Addr:=((iK c).cells.getD i default).2
noncomputable def F4 (c:Code):Addr:=(iK c).frame.getD 0
noncomputable def aT (fd:List (Addr×Obj)) (i:Nat):Addr:=(fd.getD i default).1
noncomputable def az (fd:List (Addr×Obj)) (i:Nat):Obj:=(fd.getD i default).2
noncomputable def fT (o:Obj):Value:=match o.data with|.cell (some v)=>v|_=>.none
noncomputable def bE (v:Value):Tok:=match v with|.int _ t=>t|.str _ t=>t|_=>0
noncomputable def mM (o:Obj):Nat:=match o.data with|.dict _ n=>n|_=>0
noncomputable def aw (z:Nat→Nat) (n:Nat):List (Nat×Nat×Nat):=(List.range n).map λ j=>(z (10+3 * j),z (11+3 * j),z (12+3 * j))
theorem il (qs:List (Nat×Nat×Nat)) (f:Nat→Nat):∃ z,aw z qs.length=qs∧∀ k,k < 10→z k=f k:=by
 refine ⟨λ k=>if k < 10 then f k else match qs.getD ((k - 10) / 3) default with|(a,b,c)=>if (k - 10) % 3=0 then a else if (k - 10) % 3=1 then b else c,?_,λ k hk=>by simp [hk]⟩
 unfold aw
 apply du
 ·simp
 ·intro i h1 h2
  simp only [fH,List.length_range] at h1
  simp only [List.getElem_map,List.getElem_range]
  have e0:¬ (10+3 * i < 10):=by lia
  have e1:¬ (11+3 * i < 10):=by lia
  have e2:¬ (12+3 * i < 10):=by lia
  have d0:(10+3 * i - 10) / 3=i:=by lia
  have d1:(11+3 * i - 10) / 3=i:=by lia
  have d2:(12+3 * i - 10) / 3=i:=by lia
  have m0:(10+3 * i - 10) % 3=0:=by lia
  have m1:(11+3 * i - 10) % 3=1:=by lia
  have m2:(12+3 * i - 10) % 3=2:=by lia
  simp only [e0,e1,e2,if_false,d0,d1,d2,m0,m1,m2,hW,dT h2,Option.getD_some,if_true]
  rcases qs[i] with ⟨a,b,c⟩
  simp
end
noncomputable def Co (as:List Value) (l:List Nat) (e:LE):CX "list.__add__" as e:=match as with
 |[p,q]=>match p with
  |.ref a=>match q with
   |.ref b=>cH e l a λ i a' o l' hi=>cH e l' b λ j b' p l2 hj=>jz ⟨λ z=>.ok (.ret (.ref (z 0))),λ z=>(z 0,ab (ad o++ad p) 0)::e.own,
    [.v (.ref a) (.ref a'),.v (.ref b) (.ref b'),.o o (ab (ad o) (ao o)),.o p (ab (ad p) (ao p))],[(ad o).size+(ad p).size≤1000]⟩ λ w P hq ho H F' h g d t os R L hp x=>by
     have e1:a=a':=bz (hq _ (.head _))
     have e2:b=b':=bz (hq _ bU)
     have e3:o=ab (ad o) (ao o):=hq _ fG
     have e4:p=ab (ad p) (ao p):=hq _ jX
     have e5:(ad o).size+(ad p).size≤1000:=ho _ (.head _)
     subst e1 e2
     have h1:=LE.get L hp hi
     have h2:=LE.get L hp hj
     rw [e3] at h1
     rw [e4] at h2
     refine bw (F.slot_list_add).plain F.entry_list_add (AutoSeq1.list___add___list_list_0 a (ad o) (ao o) b (ad p) (ao p) (cP e5 (cP (by lia) bS))) ⟨h1,h2,?_⟩
     exact x (λ _=>h.objs.size) _ g t (λ _=>rfl) (L.pushed (ab (ad o++ad p) 0) rfl)
   |_=>cG
  |_=>cG
 |_=>cG
noncomputable def zm:Ct:=ef "list.__add__" Co
theorem vN (w:World) (P:KF):cT pg w (KP w P) zm:=bH _ w P
noncomputable abbrev xS:dQ w P:=⟨zm,vN w P⟩
section
variable {cs:List (dQ w P)}{F:List Addr}{n:Nat}
theorem fD (sel:List Nat) (k:Nat) (tl:aq) (v:cI) (hw:v=⟨vf,vo,vb⟩) (e:(r.V.toRF,r.old,r.eqs,r.gl.all GenState.bare,r.doneV sel k)=((vc w P cs pf old H F n t₀ gg d os R).toRF,old,dup r.eqs,true,(cI.mk vf vo vb).x tl)) (eg:r.V.gg=gg) (hs:sE r.gl=some (t,c)) (nd:sel.Nodup) (hF:F=(vo.take F.length).map (·.1)) (ho:∀ y∈vb,y)
  (x:∀ h tk k l po,k (.send .none)=t→ag (KP w P) H h F (vo++tl) old→R vf ⟨h,gg.1.push (.suspended k l c po [] false),d,tk,os⟩):r.FineOf (vc w P cs pf old H F n t₀ gg d os R):=by
 obtain ⟨kk,l,po,e1,e2⟩:=wj hs
 exact ju (gl:=[.suspended kk l c po [] false]) sel k tl ⟨vf,vo,vb⟩ rfl e (by rw [eg,e1]) nd (dc hF) ho λ h tk L=>x h tk kk l po e2 L
theorem gy (sel:List Nat) (k:Nat) (tl:aq) (v:cI) (hw:v=⟨vf,vo,vb⟩) (e:(r.V.toRF,r.old,r.eqs,r.gl.all GenState.bare,r.doneV sel k)=((vc w P cs pf old H F n t₀ gg d os R).toRF,old,dup r.eqs,true,(cI.mk vf vo vb).x tl)) (eg:(r.V.gg,r.gl)=(gg,[.finished])) (nd:sel.Nodup) (hF:F=(vo.take F.length).map (·.1)) (ho:∀ y∈vb,y)
  (x:∀ h tk,ag (KP w P) H h F (vo++tl) old→R vf ⟨h,gg.1.push .finished,d,tk,os⟩):r.FineOf (vc w P cs pf old H F n t₀ gg d os R):=by
 exact ju sel k tl ⟨vf,vo,vb⟩ rfl e eg nd (dc hF) ho x
end
set_option backward.match.sparseCases true
noncomputable def Hd (id:String) (c:Code) (k:List Value→CR):CR:=match c with
 |.call v a=>match v with
  |.builtin i=>match a with
   |⟨as,kw⟩=>match kw with
    |[]=>if i=id then k as else .no
    |_=>.no
  |_=>.no
 |_=>.no
theorem D9 {id:String}{k:List Value→CR}{r:Ag}(h:Hd id c k=.ok r):∃ as,c=.call (.builtin id) ⟨as,[]⟩∧k as=.ok r:=by
 unfold Hd at h
 split at h
 ·split at h
  ·split at h
   ·split at h
    ·split at h
     ·rename_i e;subst e;exact ⟨_,rfl,h⟩
     ·cases h
    ·cases h
  ·cases h
 ·cases h
noncomputable abbrev wX (id:String) (as:List Value) (e:LE):Type:=CY (.call (.builtin id) ⟨as,[]⟩) e
noncomputable def ff (id:String) (f:(as:List Value)→(l:List Nat)→(e:LE)→wX id as e):Ct:=⟨oW,oW,true,λ c l e=>Hd id c λ as=>(f as l e).1⟩
theorem cw {id:String}(f:(as:List Value)→(l:List Nat)→(e:LE)→wX id as e) (w:World) (P:KF):cT pg w (KP w P) (ff id f):=by
 intro c l e r hr hq ho
 have hr:Hd id c (λ as=>(f as l e).1)=.ok r:=hr
 obtain ⟨as,hc,hr⟩:=D9 hr
 rw [hc]
 exact (f as l e).2 r hr w P hq ho
noncomputable def yr (xs:VA) (i:Nat) (v:Value) (as:List Value) (l:List Nat) (e:LE):wX "list_iterator.__next__" as e:=match as with
 |[p]=>match p with
  |.ref a=>gR e l a λ j a' o l' hi=>cH e l' (mt (bm o 0)) λ j2 b ol l2 hj=>jz ⟨λ _=>.ok (.ret v),λ z=>e.own.set j (a',cr b ((i+1:Nat):Int)),[.v (.ref a) (.ref a'),.o o (cr b i),.o ol (jG ol xs)],[xs[i]?=some v]⟩ λ w P hq ho H F' h g d t os R L hp x=>by
   have e1:a=a':=bz (hq _ (.head _))
   have e2:o=cr b i:=hq _ bU
   have e3:ol=jG ol xs:=hq _ fG
   have e4:xs[i]?=some v:=ho _ (.head _)
   subst e1 e2
   have hit:=L.ownAt _ _ _ hi
   have hl:=LE.get L hp hj
   have hT:(⟨h,g,d,t,os⟩:Shared).TypeIs (.ref a) "list_iterator":=⟨_,hit,rfl⟩
   refine codeAny_call_builtin slot_listiter_next.plain entry_listiter_next (slot_listiter_next.check _ _ _ _ _ _ _ _ hT (args_listiter_next _) ?_)
   show wpAny _ _ (field (.ref a) 0>>=_) _ _ _
   refine af (wpAny_field hit rfl (x:=.ref b) rfl ?_)
   show wpAny _ _ (if (Value.ref b==Value.none)=true then _ else _) _ _ _
   rw [if_neg (show ¬ ((Value.ref b==Value.none)=true) from Bool.false_ne_true)]
   show wpAny _ _ (field (.ref a) 1>>=_) _ _ _
   refine af (wpAny_field hit rfl (x:=.int i 0) rfl ?_)
   show wpAny _ _ (seqItems? (.ref b)>>=_) _ _ _
   have hdat:ol.data=.seq xs (ao ol):=by rw [e3];rfl
   refine af (wpAny_seqItems hl hdat ?_)
   simp only [Int.toNat_natCast,e4]
   refine af (wpAny_setField hit rfl (by simp) (aA ?_))
   exact x id _ _ _ (λ _=>rfl) (L.update hi rfl rfl)
  |_=>cG
 |_=>cG
noncomputable def th (xs:VA) (i:Nat) (v:Value):Ct:=ff "list_iterator.__next__" (yr xs i v)
theorem sr (w:World) (P:KF) (xs:VA) (i:Nat) (v:Value):cT pg w (KP w P) (th xs i v):=cw _ w P
noncomputable def CH (xs:VA) (as:List Value) (l:List Nat) (e:LE):wX "list_iterator.__next__" as e:=match as with
 |[p]=>match p with
  |.ref a=>gR e l a λ j a' o l' hi=>cH e l' (mt (bm o 0)) λ j2 b ol l2 hj=>jz ⟨λ z=>.error (.ref (z 0)),λ z=>rc z (e.own.set j (a',⟨.type "list_iterator",none,.fields #[.none,.int xs.size 0],#[]⟩)),[.v (.ref a) (.ref a'),.o o (cr b xs.size),.o ol (jG ol xs)],[]⟩ λ w P hq ho H F' h g d t os R L hp x=>by
   have e1:a=a':=bz (hq _ (.head _))
   have e2:o=cr b xs.size:=hq _ bU
   have e3:ol=jG ol xs:=hq _ fG
   have e4:xs[xs.size]?=none:=by simp
   subst e1 e2
   have hit:=L.ownAt _ _ _ hi
   have hl:=LE.get L hp hj
   have hT:(⟨h,g,d,t,os⟩:Shared).TypeIs (.ref a) "list_iterator":=⟨_,hit,rfl⟩
   refine codeAny_call_builtin slot_listiter_next.plain entry_listiter_next (slot_listiter_next.check _ _ _ _ _ _ _ _ hT (args_listiter_next _) ?_)
   show wpAny _ _ (field (.ref a) 0>>=_) _ _ _
   refine af (wpAny_field hit rfl (x:=.ref b) rfl ?_)
   show wpAny _ _ (if (Value.ref b==Value.none)=true then _ else _) _ _ _
   rw [if_neg (show ¬ ((Value.ref b==Value.none)=true) from Bool.false_ne_true)]
   show wpAny _ _ (field (.ref a) 1>>=_) _ _ _
   refine af (wpAny_field hit rfl (x:=.int xs.size 0) rfl ?_)
   show wpAny _ _ (seqItems? (.ref b)>>=_) _ _ _
   have hdat:ol.data=.seq xs (ao ol):=by rw [e3];rfl
   refine af (wpAny_seqItems hl hdat ?_)
   simp only [Int.toNat_natCast,e4]
   refine af (wpAny_rule (af (wpAny_setField hit rfl (by simp) ?_)))
   refine oj (A:=⟨none,oW,none,none,oW⟩) rfl ?_
   have L1:ag _ _ _ _ (e.own.set j (a,⟨.type "list_iterator",none,.fields #[.none,.int xs.size 0],#[]⟩)) e.old:=L.update (f:=Obj.mapFields λ x=>x.setIfInBounds 0 Value.none) hi rfl rfl
   exact x (λ k=>match k with|0=>_|_=>_) _ _ _ (λ _=>rfl) ((L1.pushed sF rfl).pushed (eX _) rfl)
  |_=>cG
 |_=>cG
noncomputable def z6 (xs:VA):Ct:=ff "list_iterator.__next__" (CH xs)
theorem wI (w:World) (P:KF) (xs:VA):cT pg w (KP w P) (z6 xs):=cw _ w P
noncomputable abbrev jY (xs:VA) (i:Nat) (v:Value):dQ w P:=⟨th xs i v,sr w P xs i v⟩
noncomputable abbrev nj (xs:VA):dQ w P:=⟨z6 xs,wI w P xs⟩
set_option backward.match.sparseCases false
section
end
noncomputable def rB (iw:List Nat) (own0:aq) (ir:List Nat) (old0:aq):List Fd:=List.zipWith (λ i p=>((0,i,0,p):Fd)) iw own0++List.zipWith (λ i p=>((1,i,0,p):Fd)) ir old0
section
variable {F:List Addr}{own:aq}
theorem um (e1:iw.map (LE.mk own old []).at=own0.map some) (e2:ir.map (LE.mk own old []).at=old0.map some) (b1:iw.all (Nat.blt · 1000)=true) (b2:ir.all (Nat.blt · 2000)=true):wy ⟨own,old,[]⟩ (rB iw own0 ir old0):=by
 have g:∀ {l:List Nat}{m:aq},l.map (LE.mk own old []).at=m.map some→∀ (k i:Nat) (p:Addr×Obj),l[k]?=some i→m[k]?=some p→(LE.mk own old []).at i=some p:=λ {l m} e k i p hi hp=>by
  have:=congrArg (λ z:List (Option (Addr×Obj))=>z[k]?) e
  simp only [List.getElem?_map,hi,hp,Option.map_some] at this
  exact bo this
 intro x hx
 rcases dm.mp hx with hx|hx
 ·obtain ⟨k,hk,rfl⟩:=List.mem_iff_getElem.mp hx
  rw [List.length_zipWith] at hk
  rw [List.getElem_zipWith]
  refine ⟨g e1 k _ _ (dT (by lia)) (dT (by lia)),λ _=>?_,λ h=>(by cases h),λ h=>(by cases h),Nat.zero_le _⟩
  exact bp (List.all_eq_true.mp b1 _ (List.getElem_mem (by lia)))
 ·obtain ⟨k,hk,rfl⟩:=List.mem_iff_getElem.mp hx
  rw [List.length_zipWith] at hk
  rw [List.getElem_zipWith]
  refine ⟨g e2 k _ _ (dT (by lia)) (dT (by lia)),λ h=>(by cases h),λ _=>?_,λ h=>(by cases h),(by show (1:Nat)≤2;lia)⟩
  exact bp (List.all_eq_true.mp b2 _ (List.getElem_mem (by lia)))
theorem yq (l1:iw.length=own0.length) (l2:ir.length=old0.length):(rB iw own0 ir old0).map (λ x=>x.2.1)=iw++ir:=by
 have g:∀ (n:Nat) {l:List Nat}{m:aq},l.length=m.length→(List.zipWith (λ i p=>((n,i,0,p):Fd)) l m).map (λ x=>x.2.1)=l:=by
  intro n l
  induction l with
  |nil=>intro m _;rfl
  |cons i l ih=>
   intro m hm
   induction m with
   |nil=>simp at hm
   |cons p m=>
    simp at hm
    show i::List.map _ (List.zipWith _ l m)=i::l
    exact congrArg _ (ih hm)
 unfold rB
 rw [aW,g 0 l1,g 1 l2]
theorem pX (l1:iw.length=own0.length) (l2:ir.length=old0.length):
  (((rB iw own0 ir old0).filter λ x=>Nat.beq x.1 0).map λ x=>x.2.2.2)=own0∧(((rB iw own0 ir old0).filter λ x=>Nat.beq x.1 1).map λ x=>x.2.2.2)=old0∧(((rB iw own0 ir old0).filter λ x=>Nat.beq x.1 0).map λ x=>x.2.1)=iw:=by
 have all:∀ (n k:Nat) (l:List Nat) (m:aq),Nat.beq n k=true→(List.zipWith (λ i p=>((n,i,0,p):Fd)) l m).filter (λ x=>Nat.beq x.1 k)=List.zipWith (λ i p=>((n,i,0,p):Fd)) l m:=λ n k l m h=>
  List.filter_eq_self.mpr λ x hx=>by
   obtain ⟨j,hj,rfl⟩:=List.mem_iff_getElem.mp hx
   rw [List.getElem_zipWith];exact h
 have none:∀ (n k:Nat) (l:List Nat) (m:aq),Nat.beq n k=false→(List.zipWith (λ i p=>((n,i,0,p):Fd)) l m).filter (λ x=>Nat.beq x.1 k)=[]:=λ n k l m h=>
  List.filter_eq_nil_iff.mpr λ x hx=>by
   obtain ⟨j,hj,rfl⟩:=List.mem_iff_getElem.mp hx
   rw [List.getElem_zipWith,h];decide
 have g:∀ (n:Nat) {l:List Nat}{m:aq},l.length=m.length→(List.zipWith (λ i p=>((n,i,0,p):Fd)) l m).map (λ x=>x.2.2.2)=m:=by
  intro n l
  induction l with
  |nil=>intro m hm;induction m with
   |nil=>rfl
   |cons _ _=>simp at hm
  |cons i l ih=>
   intro m hm
   induction m with
   |nil=>simp at hm
   |cons p m=>
    simp at hm
    show p::List.map _ (List.zipWith _ l m)=p::m
    exact congrArg _ (ih hm)
 have g2:∀ (n:Nat) {l:List Nat}{m:aq},l.length=m.length→(List.zipWith (λ i p=>((n,i,0,p):Fd)) l m).map (λ x=>x.2.1)=l:=by
  intro n l
  induction l with
  |nil=>intro m _;rfl
  |cons i l ih=>
   intro m hm
   induction m with
   |nil=>simp at hm
   |cons p m=>
    simp at hm
    show i::List.map _ (List.zipWith _ l m)=i::l
    exact congrArg _ (ih hm)
 unfold rB
 simp only [List.filter_append]
 rw [all 0 0 _ _ rfl,none 1 0 _ _ rfl,none 0 1 _ _ rfl,all 1 1 _ _ rfl,aX,List.nil_append]
 exact ⟨g 0 l1,g 1 l2,g2 0 l1⟩
theorem ag.focus (L:ag K H h F own old) (iw ir:List Nat) (own0 old0:aq) (e1:iw.map (LE.mk own old []).at=own0.map some) (e2:ir.map (LE.mk own old []).at=old0.map some)
  (b:(iw.all (Nat.blt · 1000)&&ir.all (Nat.blt · 2000)&&je (iw++ir))=true):ag K h h (own0.map (·.1)) own0 old0:=by
 simp only [Bool.and_eq_true] at b
 have l1:iw.length=own0.length:=by have:=congrArg List.length e1;simpa using this
 have l2:ir.length=old0.length:=by have:=congrArg List.length e2;simpa using this
 have z:=w9 (e:=⟨own,old,[]⟩) L (um e1 e2 b.1.1 b.1.2) (by rw [yq l1 l2];exact iR b.2)
 obtain ⟨s1,s2,_⟩:=pX (iw:=iw) (ir:=ir) l1 l2
 rw [s1,s2] at z
 exact z
theorem ag.back (L:ag K H h F own old) (iw:List Nat) (own0 upd new old0:aq) (e1:iw.map (LE.mk own old []).at=own0.map some)
  (b:iw.all (Nat.blt · 1000)=true) (eu:upd.map (·.1)=own0.map (·.1)) (L':ag K h h' (own0.map (·.1)) (upd++new) old0):ag K H h' F (new++lN own iw upd) old:=by
 have l1:iw.length=own0.length:=by have:=congrArg List.length e1;simpa using this
 obtain ⟨s1,_,s3⟩:=pX (iw:=iw) (ir:=[]) (old0:=[]) l1 rfl
 have z:=tH (e:=⟨own,old,[]⟩) L (um (ir:=[]) (old0:=[]) e1 rfl b rfl) s1 eu L'
 rw [s3] at z
 exact z
noncomputable def mK (e:LE) (idx:List Nat):aq:=idx.map λ i=>match e.at i with|some p=>p|none=>(0,cZ)
theorem me {idx:List Nat}(h:idx.all (λ i=>(e.at i).isSome)=true):idx.map e.at=(mK e idx).map some:=by
 unfold mK
 rw [List.map_map]
 refine List.map_congr_left λ i hi=>?_
 have:=List.all_eq_true.mp h i hi
 cases q:e.at i with
 |none=>rw [q] at this;cases this
 |some p=>simp [q]
noncomputable def tD (e:LE) (iw ir:List Nat):Bool:=iw.all (Nat.blt · 1000)&&ir.all (Nat.blt · 2000)&&je (iw++ir)&&iw.all (λ i=>(e.at i).isSome)&&ir.all (λ i=>(e.at i).isSome)
theorem ag.foc (L:ag K H h F own old) (iw ir:List Nat) (b:tD ⟨own,old,[]⟩ iw ir=true):ag K h h ((mK ⟨own,old,[]⟩ iw).map (·.1)) (mK ⟨own,old,[]⟩ iw) (mK ⟨own,old,[]⟩ ir):=by
 unfold tD at b
 simp only [Bool.and_eq_true] at b
 obtain ⟨⟨⟨⟨b1,b2⟩,b3⟩,b4⟩,b5⟩:=b
 exact L.focus iw ir _ _ (me b4) (me b5) (by rw [b1,b2,b3];rfl)
theorem ag.bac (L:ag K H h F own old) (iw ir:List Nat) {F0:List Addr}{own1:aq}(L':ag K h h' F0 own1 old0) (b:tD ⟨own,old,[]⟩ iw ir=true) (eF:F0=(mK ⟨own,old,[]⟩ iw).map (·.1)) (eu:(own1.take iw.length).map (·.1)=(mK ⟨own,old,[]⟩ iw).map (·.1)):
  ag K H h' F (own1.drop iw.length++lN own iw (own1.take iw.length)) old:=by
 unfold tD at b
 simp only [Bool.and_eq_true] at b
 obtain ⟨⟨⟨⟨b1,b2⟩,b3⟩,b4⟩,b5⟩:=b
 subst eF
 rw [←List.take_append_drop iw.length own1] at L'
 exact L.back iw _ _ _ old0 (me b4) b1 eu L'
end
noncomputable def hG (v:Value):Str×Tok:=match v with|.str x t=>(x,t)|_=>(⟨#[]⟩,0)
noncomputable def zn (as:List Value) (l:List Nat) (e:LE):wX "str.join" as e:=match as with
 |[p,q]=>match p with
  |.str s ts=>match q with
   |.ref a=>cH e l a λ j a' o l' hi=>jz ⟨λ z=>.ok (.ret (.str (Builtin.Str.glued s [(hG ((ad o).getD 0 .none)).1,(hG ((ad o).getD 1 .none)).1]) (z 0))),λ _=>e.own,
    [.v (.ref a) (.ref a'),.o o (aU #[.str (hG ((ad o).getD 0 .none)).1 (hG ((ad o).getD 0 .none)).2,.str (hG ((ad o).getD 1 .none)).1 (hG ((ad o).getD 1 .none)).2] (ao o))],
    [(hG ((ad o).getD 0 .none)).1.length+(hG ((ad o).getD 1 .none)).1.length+2 * s.length≤10000]⟩ λ w P hq ho H F' h g d t os R L hp x=>by
    have e1:a=a':=bz (hq _ (.head _))
    have e2:=hq _ bU
    have e3:=ho _ (.head _)
    generalize hA:hG ((ad o).getD 0 .none)=A at e2 e3 x
    generalize hB:hG ((ad o).getD 1 .none)=B at e2 e3 x
    obtain ⟨x1,u1⟩:=A
    obtain ⟨x2,u2⟩:=B
    have e2':o=aU #[.str x1 u1,.str x2 u2] (ao o):=e2
    subst e1
    have hh:=LE.get L hp hi
    rw [e2'] at hh
    have fit:Builtin.Str.tooLong ((([(x1,u1),(x2,u2)]:List (Str×Tok)).map (·.1)).toArray.foldl (·+·.length+s.length) 0)=false:=by
     unfold Builtin.Str.tooLong
     have h2:x1.length+x2.length+2 * s.length≤10000:=e3
     have:(10000:Nat)≤sizeLine:=by unfold sizeLine;lia
     simp
     lia
    refine codeAny_call_builtin F.slot_str_join.plain F.entry_str_join (F.slot_str_join.check _ _ _ _ _ _ _ _ (typeIs_str _ _ _) (F.args_str_join_2 _ _) ?_)
    obtain ⟨other,et⟩:=PySem.join_tree s ts a
    rw [et]
    have hT:(⟨h,g,d,t,os⟩:Shared).TypeIs (.ref a) "tuple":=⟨_,hh,rfl⟩
    refine af (wpAny_typeOf hT ?_)
    rw [if_pos (by decide)]
    refine af (wpAny_seqItems hh rfl ?_)
    have gg:=PySem.gives_joinTail s [(x1,u1),(x2,u2)] fit
    exact gg pg w _ R _ ⟨by
     show (Builtin.Str.glued s [x1,x2]).length≤sizeLine
     have h3:=joinFit_length fit
     exact h3,x (λ _=>t) h g _ (λ _=>rfl) L⟩
   |_=>cG
  |_=>cG
 |_=>cG
noncomputable def uW:Ct:=ff "str.join" zn
theorem rG (w:World) (P:KF):cT pg w (KP w P) uW:=cw _ w P
noncomputable abbrev rS:dQ w P:=⟨uW,rG w P⟩
section
end
theorem zI {A:Around}{st:Addr}{Q:PySem.Fin→Shared→Prop}
  (hn:wpAny M A (pyNext gen) (λ r s'=>∃ v xs c,r=some v∧s'.heap.get? st=some (ab xs c)∧xs.size≤1000∧
   Q (.again (.builtin "list.extend.loop" ⟨[.ref st,gen,res],[]⟩)) { s' with heap:=s'.heap.update st (Obj.mapSeq λ ys=>ys.push v) }) E s):
  wpAny M A (Builtin.«list.extend.loop» ⟨[.ref st,gen,res],[]⟩) Q E s:=by
 show wpAny _ _ (pyNext gen>>=_) _ _ s
 refine af (wpAny_mono hn (λ r s' h'=>?_) λ _ _ h=>h)
 obtain ⟨v,xs,c,rfl,hS,hsz,x⟩:=h'
 show wpAny _ _ (updateSeq st (·.push v)>>=_) _ _ _
 refine af ?_
 refine wpAny_updateSeq hS rfl (aA x) (cP hsz (cP (by lia) bS)) (by show (xs.push v).size≤_;rw [Array.size_push];have:=bS;lia)
theorem BH {A:Around}{st:Addr}{Q:PySem.Fin→Shared→Prop}
  (hn:wpAny M A (pyNext gen) (λ r s'=>r=none∧Q (.done (.ret res)) s') E s):wpAny M A (Builtin.«list.extend.loop» ⟨[.ref st,gen,res],[]⟩) Q E s:=by
 show wpAny _ _ (pyNext gen>>=_) _ _ s
 refine af (wpAny_mono hn (λ r s' h'=>?_) λ _ _ h=>h)
 obtain ⟨rfl,x⟩:=h'
 exact aA x
section
end
theorem rV (p:Addr):Builtin.«str.__new__» ⟨[.type "str",.ref p],[]⟩=(Builtin.Str.strOf (.ref p)>>=λ made=>ret made):=by
 have h1:isType (.type "str")=pure true:=by kernel_rfl
 have h2:isSubtype (.type "str") (.type "str")=pure true:=by rw [isSubtype_type];kernel_rfl
 unfold Builtin.«str.__new__»
 simp only [h1,h2,pure_bind]
 rfl
theorem o6 {A:Around}{K:Frag}{x C f:Addr}{ox:Obj}{od:Option Obj}(hu:A.in1.units < cLine) (X:K.In s.heap) (I:InstAt s.heap x ox C od)
  (hs:findIn K (.ref C) "__str__"=some (some (.ref f))) (hf:isFn K (.ref f)=true)
  (hc:codeAny (model prog w) A.in1 (.call (.ref f) ⟨[.ref x],[]⟩) (λ r s'=>∃ y u,r=.ok (.ret (.str y u))∧R r s') s):
  codeAny (model prog w) A (.builtin "str.__new__" ⟨[.type "str",.ref x],[]⟩) R s:=by
 refine dt PySem.F.entry_str_new ?_
 rw [i0 (by decide+kernel) _,rV]
 refine af (wpAny_mono (kso_strOf hu X I hs hf (Q:=λ r s₁=>R (.ok (.ret r)) s₁) (wpAny_call (codeAny_mono hc λ r s' hr=>?_))) (λ r s₁ hr=>?_) λ _ _ y=>y)
 ·obtain ⟨y,u,rfl,h⟩:=hr
  exact h
 ·exact aA hr
section
open PySem.SeqAt
noncomputable def G5 (x y:Value) (b:Bool):Prop:=(x=y∧b=true)∨(∃ a t c u,x=.int a t∧y=.int c u∧b=(a==c))∨(∃ a c,x=.bool a∧y=.bool c∧b=(a==c))
theorem G5.at {x y:Value}{b:Bool}(h:G5 x y b) (A:Around) (s:Shared):EqAt A s x y b:=by
 rcases h with ⟨rfl,rfl⟩|⟨a,t,c,u,rfl,rfl,rfl⟩|⟨a,c,rfl,rfl,rfl⟩
 ·exact EqAt.same _
 ·exact EqAt.int_int _ _ _ _
 ·exact EqAt.bool_bool _ _
noncomputable def bx (xs ys:VA) (r:Bool):Prop:=(xs.size≠ys.size∧r=false)∨(xs.size=ys.size∧∃ e:Nat→Bool,(∀ j (h1:j < xs.size) (h2:j < ys.size),G5 xs[j] ys[j] (e j))∧(List.range xs.size).all e=r)
theorem bx.refl (xs:VA):bx xs xs true:=.inr ⟨rfl,λ _=>true,λ j h1 h2=>.inl ⟨rfl,rfl⟩,by simp⟩
theorem bx.of_eq (h:xs=ys):bx xs ys true:=h▸.refl xs
theorem gO:plainId "list.__ne__"=true:=by kernel_rfl
noncomputable def rj (ne:Bool):String:=match ne with|true=>"list.__ne__"|false=>"list.__eq__"
noncomputable def He (ne r:Bool):Bool:=match ne with|true=>!r|false=>r
theorem yx {ne r:Bool}{o p:Obj}(hi:e.at i=some (a',o)) (hj:e.at j=some (b',p)):sW (.builtin (rj ne) ⟨[.ref a,.ref b],[]⟩) e ⟨λ _=>.ok (.ret (.bool (He ne r))),λ _=>e.own,
  [.v (.ref a) (.ref a'),.v (.ref b) (.ref b'),.o o (ab (ad o) (ao o)),.o p (ab (ad p) (ao p))],[bx (ad o) (ad p) r]⟩:=λ w P hq ho H F' h g d t os R L hp x=>by
 rw [bz (hq _ (.head _)),bz (hq _ bU)]
 have h1:=(LE.get L hp hi).trans (congrArg some (hq _ fG))
 have h2:=(LE.get L hp hj).trans (congrArg some (hq _ jX))
 have e5:bx (ad o) (ad p) r:=ho _ (.head _)
 have z:=x (λ _=>0) h g t (λ _=>rfl) L
 clear hq ho hp x L
 generalize ad o=xs at h1 e5
 generalize ad p=ys at h2 e5
 rcases e5 with ⟨hs,e6⟩|⟨hs,ee,he,e6⟩
 ·rw [e6] at z
  cases ne
  ·exact bw (F.slot_list_eq).plain F.entry_list_eq (list_eq_lengthsAt a' b' _ _ _ _ none none #[] #[] (by simpa using hs)) ⟨h1,h2,z⟩
  ·exact bw gO F.entry_list_ne (list_ne_lengthsAt a' b' _ _ _ _ none none #[] #[] (by simpa using hs)) ⟨h1,h2,z⟩
 ·rw [←e6] at z
  cases ne
  ·exact bw (F.slot_list_eq).plain F.entry_list_eq (list_eqAt a' b' _ _ _ _ none none #[] #[] hs ee) ⟨h1,h2,λ j k1 k2=>(he j k1 k2).at _ _,z⟩
  ·exact bw gO F.entry_list_ne (list_neAt a' b' _ _ _ _ none none #[] #[] hs ee) ⟨h1,h2,λ j k1 k2=>(he j k1 k2).at _ _,z⟩
noncomputable def Cz (ne r:Bool) (as:List Value) (l:List Nat) (e:LE):CX (rj ne) as e:=match as with
 |[p,q]=>match p with
  |.ref a=>match q with
   |.ref b=>match l with
    |[]=>uz a
    |i::l'=>match l' with
     |[]=>uz b
     |j::_=>match hi:e.at i with
      |some x=>match hj:e.at j with
       |some y=>jz _ (yx (r:=r) hi hj)
       |none=>cG
      |none=>cG
   |_=>cG
  |_=>cG
 |_=>cG
noncomputable def qW (ne r:Bool):Ct:=ef (rj ne) (Cz ne r)
theorem nR (w:World) (P:KF) (ne r:Bool):cT pg w (KP w P) (qW ne r):=bH _ w P
noncomputable abbrev yJ (r:Bool):dQ w P:=⟨qW false r,nR w P false r⟩
noncomputable abbrev y3 (r:Bool):dQ w P:=⟨qW true r,nR w P true r⟩
end
noncomputable def cz (enc:α→Flow) (Q:α→Shared→Prop) (E:Value→Shared→Prop):RP:=λ r s=>match r with
 |.ok fl=>∀ a,fl=enc a→Q a s
 |.error e=>E e s
@[irreducible] noncomputable def oD (enc:α→Flow) (V:RV) (hs:List Hn) (A:Around) (c:Code) (t:Sem α) (own old:aq) (ps:Ps):RS:=Bn 1000000 V ps hs A c none false (t.bind λ a=>.pure (.done (enc a))) .base own old 0 0 [] [] []
theorem dj {α:Type}(enc:α→Flow) {V:RV}(O:V.toRF.Ok) (hs:List Hn) {A:Around}{c:Code}{t:Sem α}{Q:α→Shared→Prop}{E:Value→Shared→Prop}(hR:V.R=cz enc Q E) {own old:aq}{h:Heap}(L:ag V.K V.H h V.F own old) (hn:h.objs.size=V.n)
  (x:∀ ps,(oD enc V hs A c t own old ps).FineOf V):wpOwn (model V.prog V.w) A c t Q E ⟨h,V.gg,V.d,V.t₀,V.os⟩:=by
 have G:Gd V own old 0 h:=⟨L,hn⟩
 unfold oD at x
 have z:=(fx 1000000 V O hs A c none false (t.bind λ a=>.pure (.done (enc a))) .base own old 0 0 [] [] []).2 x h G
 unfold sh at z
 rw [dy] at z
 intro Γ p hc hΓ
 have y:Sem.wp (model V.prog V.w) Γ (t>>=λ a=>(Sem.pure (PySem.Fin.done (enc a)):Sem PySem.Fin)) (λ a _ s'=>QQ V A c .base false a s') (λ e _ s'=>postE (bB V .base) e s') p _:=z Γ p hc hΓ
 rw [Sem.wp_bind'] at y
 refine Sem.wp_mono _ Γ t (λ a p' s' h'=>?_) (λ e p' s' h'=>?_) p _ y
 ·have h2:V.R (.ok (enc a)) s':=h'
  rw [hR] at h2;exact h2 a rfl
 ·have h2:V.R (.error e) s':=h'
  rw [hR] at h2;exact h2
section
variable {A:Around}
theorem mS {m:Sem α}{Q:Except Value α→Shared→Prop}(h:wpOwn M A c m (λ a=>Q (.ok a)) (λ e=>Q (.error e)) s):wpOwn M A c m.attempt Q E s:=λ Γ p hc hΓ=>by
 rw [Sem.wp_attempt];exact h Γ p hc hΓ
theorem Bt {body orelse:Sem Flow}{hs:List ExceptHandler}{Q:Flow→Shared→Prop}
  (h:wpOwn M A c body (λ f s₁=>match f with|.next=>wpOwn M A c orelse Q E s₁|f=>Q f s₁)
   (λ e s₁=>wpOwn M A c (noteFrame e env) (λ _ s₂=>wpOwn M A c (setFlight e none) (λ _ s₃=>wpOwn M A c (handleBy e env (h₀::hs)) Q E s₃) E s₂) E s₁) s):
  wpOwn M A c (tryStmt false body (h₀::hs) orelse [] env) Q E s:=by
 unfold tryStmt
 simp only [List.isEmpty_nil,if_true,List.isEmpty_cons,Bool.false_and,Bool.false_eq_true,if_false]
 refine bG (mS (wpOwn_mono h (λ f s₁ h₁=>?_) λ e s₁ h₁=>?_))
 ·induction f<;>first|exact h₁|exact aP h₁
 ·exact bG (wpOwn_mono h₁ (λ _ _ h₂=>bG h₂) λ _ _ x=>x)
end
theorem uf {A:Around}{orelse:List Stmt}{hs:List ExceptHandler}{Q:Flow→Shared→Prop}
  (h:wpOwn (model prog w) A c (execs body env) (λ f s₁=>match f with|.next=>wpOwn (model prog w) A c (execs orelse env) Q E s₁|f=>Q f s₁)
   (λ e s₁=>wpOwn (model prog w) A c (noteFrame e env) (λ _ s₂=>wpOwn (model prog w) A c (setFlight e none) (λ _ s₃=>wpOwn (model prog w) A c (handleBy e env (h₀::hs)) Q E s₃) E s₂) E s₁) s):
  wpOwn (model prog w) A c (exec (.Try body (h₀::hs) orelse [] pos) env) Q E s:=by
 rw [arm_exec_Try]
 exact bG (eY (wpAny_standAt (M:=model prog w) (A:=A.under c) (E:=E) (Q:=λ _ s'=>wpOwn (model prog w) A c _ Q E s') (Bt h)))
noncomputable def cU (l:aq) (z:Nat→iT):aq:=l.mapIdx λ i p=>(p.1,{ p.2 with slots:=z i })
theorem iF (l:aq) (z:Nat→iT):(cU l z).map (·.1)=l.map (·.1):=by
 unfold cU
 apply du
 ·simp
 ·intro i h1 h2;simp
theorem ag.slots {F S:List Addr}{l1:aq}(L:ag K H h F (l1++rest) old) (x:Heap.SlotsOnly S h h') (hS:∀ a∈S,a∈l1.map (·.1)):∃ z,ag K H h' F (cU l1 z++rest) old:=by
 have hz:∀ i:Nat,∃ sl,∀ p,l1[i]?=some p→h'.get? p.1=some { p.2 with slots:=sl }:=λ i=>by
  cases q:l1[i]? with
  |none=>exact ⟨#[],λ p hp=>by cases hp⟩
  |some p=>
   obtain ⟨sl,e⟩:=x.2.2 p.1 p.2 (L.hown p (aI _ (bQ q))).1
   exact ⟨sl,λ p' hp=>by cases hp;exact e⟩
 obtain ⟨z,hz2⟩:=Classical.axiomOfChoice hz
 refine ⟨z,?_⟩
 have hm:(cU l1 z++rest).map (·.1)=(l1++rest).map (·.1):=by rw [aW,iF,←aW]
 have nd:=L.nd
 rw [bC,aW] at nd
 have nd':=(bX.mp nd).2.2
 have other:∀ p∈rest++old,p.1∉S:=λ p hp hs=>nd' p.1 (hS _ hs) p.1 (bW hp) rfl
 have same:∀ b,b∉S→h'.get? b=h.get? b:=λ b hb=>x.2.1 b hb
 refine ⟨λ b o hb e=>?_,λ p hp=>?_,λ p hp=>(same _ (other p (bu _ hp))).trans (L.hold p hp),?_,λ a ha=>?_,λ a o e=>?_,λ p hp=>?_,L.offo⟩
 ·have:b∉S:=λ hs=>by
   obtain ⟨p,hp,rfl⟩:=aY.mp (hS _ hs)
   rcases (L.hown p (aI _ hp)).2 with q|q
   ·exact hb q
   ·rw [e] at q;cases q
  exact (same b this).trans (L.keep b o hb e)
 ·rcases dm.mp hp with hp|hp
  ·unfold cU at hp
   obtain ⟨i,hi,rfl⟩:=List.mem_mapIdx.mp hp
   refine ⟨hz2 i l1[i] (dT hi),?_⟩
   exact (L.hown _ (aI _ (List.getElem_mem hi))).2
  ·exact ⟨(same _ (other p (aI _ hp))).trans (L.hown p (bu _ hp)).1,(L.hown p (bu _ hp)).2⟩
 ·rw [aW,hm,←aW];exact L.nd
 ·rw [hm];exact L.foot a ha
 ·have:a∉S:=λ hs=>by
   obtain ⟨p,hp,rfl⟩:=aY.mp (hS _ hs)
   have:=L.off p (aI _ hp)
   rw [e] at this;cases this
  exact (same a this).trans (L.kin a o e)
 ·have:p.1∈(cU l1 z++rest).map (·.1):=bW hp
  rw [hm] at this
  obtain ⟨q,hq,e⟩:=aY.mp this
  rw [←e];exact L.off q hq
theorem wD {enc:α→Flow}{Q:α→Shared→Prop}{cs:List (dQ w P)}{F:List Addr}{n:Nat}(hR:R=cz enc Q E) (sel:List Nat) (k:Nat) (tl:aq) (a:α) (gm:aq) (ob:List Prop) (e:(r.V.toRF,r.old,r.eqs,r.gl.all GenState.bare,r.doneV sel k)=((vc w P cs pf old H F n t₀ gg d os R).toRF,old,dup r.eqs,true,(cI.mk (.ok (enc a)) gm ob).x tl)) (eg:(r.V.gg,r.gl)=(gg,[])) (inj:∀ a b,enc a=enc b→a=b) (nd:sel.Nodup) (hF:∀ a∈F,a∈(gm++tl).map (·.1)) (ho:∀ y∈ob,y)
  (x:∀ h t,ag (KP w P) H h F (gm++tl) old→Q a ⟨h,gg,d,t,os⟩):r.FineOf (vc w P cs pf old H F n t₀ gg d os R):=
 lE sel k tl ⟨_,gm,ob⟩ rfl e eg nd hF ho λ h t L=>by
  rw [hR]
  intro b hb
  rw [←inj _ _ hb]
  exact x h t L
theorem mu {enc:α→Flow}{Q:α→Shared→Prop}{cs:List (dQ w P)}{F:List Addr}{n:Nat}(hR:R=cz enc Q E) (sel:List Nat) (k:Nat) (tl:aq) (ev:Value) (gm:aq) (ob:List Prop) (e:(r.V.toRF,r.old,r.eqs,r.gl.all GenState.bare,r.doneV sel k)=((vc w P cs pf old H F n t₀ gg d os R).toRF,old,dup r.eqs,true,(cI.mk (.error ev) gm ob).x tl)) (eg:(r.V.gg,r.gl)=(gg,[])) (nd:sel.Nodup) (hF:∀ a∈F,a∈(gm++tl).map (·.1)) (ho:∀ y∈ob,y)
  (x:∀ h t,ag (KP w P) H h F (gm++tl) old→E ev ⟨h,gg,d,t,os⟩):r.FineOf (vc w P cs pf old H F n t₀ gg d os R):=
 lE sel k tl ⟨_,gm,ob⟩ rfl e eg nd hF ho λ h t L=>by
  rw [hR]
  exact x h t L
theorem Dy:∀ a b:Flow,id a=id b→a=b:=λ _ _ h=>h
theorem kZ:∀ a b:Value,Flow.ret a=Flow.ret b→a=b:=λ _ _ h=>Flow.ret.inj h
noncomputable abbrev cb (l:aq):List Addr:=l.map (·.1)
noncomputable def dP:List Env→aq→Prop
 |[],[]=>True
 |env::l,p::fl=>env.scope.kind≠.module∧env.frame=some p.1∧(∀ vs,p.2.data≠.fields vs)∧dP l fl
 |_,_=>False
theorem gC (p:Addr×Obj) (l:aq) (z:Nat→iT):cU (p::l) z=(p.1,{ p.2 with slots:=z 0 })::cU l λ i=>z (i+1):=by
 unfold cU;rw [List.mapIdx_cons]
theorem dP.up:∀ {l:List Env}{fl:aq},dP l fl→∀ z,dP l (cU fl z)
 |[],[],_,_=>trivial
 |[],_::_,h,_=>h.elim
 |_::_,[],h,_=>h.elim
 |env::l,p::fl,h,z=>by
  rw [gC]
  exact ⟨h.1,h.2.1,h.2.2.1,dP.up h.2.2.2 _⟩
theorem dP.addrs:∀ {l:List Env}{fl:aq},dP l fl→l.filterMap (·.frame)=cb fl
 |[],[],_=>rfl
 |[],_::_,h=>h.elim
 |_::_,[],h=>h.elim
 |env::l,p::fl,h=>by
  rw [List.filterMap_cons,h.2.1]
  show p.1::_=p.1::_
  rw [dP.addrs h.2.2.2]
theorem dP.fun {base:Heap}(hb:∀ a,base.get? a=none):∀ {l:List Env}{fl:aq},dP l fl→(∀ p∈fl,h.get? p.1=some p.2)→h.FunFrames base l
 |[],[],_,_=>trivial
 |[],_::_,x,_=>x.elim
 |_::_,[],x,_=>x.elim
 |env::l,p::fl,x,y=>⟨x.1,⟨p.1,p.2,x.2.1,hb _,y p (.head _),x.2.2.1⟩,dP.fun hb x.2.2.2 λ q hq=>y q (.tail _ hq)⟩
noncomputable def DK:Heap:={ objs:=#[] }
theorem sB (a:Addr):DK.get? a=none:=Heap.get?_none_of_le (Nat.zero_le _)
noncomputable abbrev Ed (L:Addr) (pl:List Value):Obj:={ cls:=.type "traceback",dict:=none,data:=.fields (([Value.none,.ref L,.none,rawInt L,.none]++(if pl.isEmpty then List.replicate 6 Value.none else pl)).toArray) }
section
variable {A:Around}{F:List Addr}{t:Nat}
theorem pM {l:List Env}{L ea:Addr}{oe:Obj}{fl:aq}{vs:VA}{Q:Unit→Shared→Prop}(hfr:(A.under c).frames=some (env::l)) (hf:env.frame=some L)
  (hF:dP (env::l) ((L,oL)::fl)) (Lg:ag K H h F ((L,oL)::fl++(ea,oe)::rest) old) (hd:oe.data=.fields vs) (h1:vs[1]?=some .none)
  (x:∀ h' z tb pl,ag K H h' F ((tb,(Ed L pl).mapFields (·.setIfInBounds 3 .none))::(cU ((L,oL)::fl) z++(ea,oe.mapFields (·.setIfInBounds 1 (.ref tb)))::rest)) old→Q () ⟨h',g,d,t,os⟩):
  wpOwn (model prog w) A c (noteFrame (.ref ea) env) (λ _ s₂=>wpOwn (model prog w) A c (setFlight (.ref ea) none) Q E s₂) E ⟨h,g,d,t,os⟩:=by
 have he:h.get? ea=some oe:=(Lg.hown (ea,oe) (bu _ (.head _))).1
 have hsz:1 < vs.size:=(Array.getElem?_eq_some_iff.mp h1).1
 refine eY ?_
 unfold noteFrame
 simp only [hf]
 refine af (wpAny_field he hd h1 ?_)
 rw [if_neg (by decide)]
 refine af (wpAny_frameOf_fun hfr (hF.fun sB λ p hp=>(Lg.hown p (aI _ hp)).1) hf λ h₁ S=>?_)
 rw [hF.addrs] at S
 obtain ⟨z,L1⟩:=Lg.slots S (λ a ha=>ha)
 refine af (wpAny_entryPlaceOf λ pl hpl=>?_)
 unfold EntryCells.newEntry newFields
 refine af (wpAny_newObj_type ?_ (hpl.sizeOk5 _ _ _ _ _))
 have L2:=L1.pushed (Ed L pl) rfl
 have e2:(h₁.push (Ed L pl)).get? ea=some oe:=(L2.hown (ea,oe) (.tail _ (bu _ (.head _)))).1
 refine wpAny_setField e2 hd hsz ?_
 have i2:((h₁.objs.size,Ed L pl)::(cU ((L,oL)::fl) z++(ea,oe)::rest))[1+(fl.length+1)]?=some (ea,oe):=by
  rw [Nat.add_comm,List.getElem?_cons_succ]
  have:(cU ((L,oL)::fl) z).length=fl.length+1:=by unfold cU;simp
  rw [List.getElem?_append_right (by lia),this,Nat.sub_self];rfl
 have hd3:=Obj.data_mapFields hd (·.setIfInBounds 1 (Value.ref h₁.objs.size))
 have L3:=L2.update (f:=Obj.mapFields (·.setIfInBounds 1 (.ref h₁.objs.size))) i2 rfl (Obj.isFreed_of_fields hd3)
 have e3:((h₁.objs.size,Ed L pl)::(cU ((L,oL)::fl) z++(ea,oe)::rest)).set (1+(fl.length+1)) (ea,oe.mapFields (·.setIfInBounds 1 (.ref h₁.objs.size)))=(h₁.objs.size,Ed L pl)::(cU ((L,oL)::fl) z++(ea,oe.mapFields (·.setIfInBounds 1 (.ref h₁.objs.size)))::rest):=by
  rw [Nat.add_comm,List.set_cons_succ]
  have:(cU ((L,oL)::fl) z).length=fl.length+1:=by unfold cU;simp
  rw [List.set_append_right _ _ (by lia),this,Nat.sub_self];rfl
 rw [e3] at L3
 refine eY ?_
 have e4:=(L3.hown (ea,oe.mapFields (·.setIfInBounds 1 (.ref h₁.objs.size))) (.tail _ (bu _ (.head _)))).1
 have e5:=(L3.hown (h₁.objs.size,Ed L pl) (.head _)).1
 refine PySem.wpAny_setFlight_none (tb:=h₁.objs.size) e4 hd3 (by simp [hsz]) e5 rfl (by simp only [List.size_toArray,List.length_append,List.length_cons,List.length_nil];lia) ?_
 refine x _ z h₁.objs.size pl ?_
 exact L3.update (i:=0) (f:=Obj.mapFields (·.setIfInBounds 3 .none)) rfl rfl (Obj.isFreed_of_fields (Obj.data_mapFields (vs:=(([Value.none,.ref L,.none,rawInt L,.none]++(if pl.isEmpty then List.replicate 6 Value.none else pl)).toArray)) rfl _))
end
noncomputable def gS (n:Nat) (c:Nat→Nat→Bool):KasT α→Option α
 |.ret a=>some a
 |.ask i j k=>match Nat.blt i n&&Nat.blt j n with
  |true=>gS n c (k (c i j))
  |false=>none
theorem jT {n:Nat}{c c':Nat→Nat→Bool}(h:∀ i j,i < n→j < n→c i j=c' i j):∀ t:KasT α,gS n c t=gS n c' t
 |.ret a=>rfl
 |.ask i j k=>by
  unfold gS
  split
  ·rename_i hb
   simp only [Bool.and_eq_true] at hb
   rw [h i j (bp hb.1) (bp hb.2)]
   exact jT h _
  ·rfl
theorem pL {n:Nat}{c:Nat→Nat→Bool}{cmp:Nat→Nat→(Bool→Shared→Prop)→Shared→Prop}{G:α→Shared→Prop}(hc:∀ i j C,i < n→j < n→C (c i j) s→cmp i j C s):∀ (t:KasT α) (a:α),gS n c t=some a→G a s→t.kasWp cmp G s
 |.ret a,b,e,h=>by cases e;exact h
 |.ask i j k,b,e,h=>by
  unfold gS at e
  split at e
  ·rename_i hb
   simp only [Bool.and_eq_true] at hb
   exact hc i j _ (bp hb.1) (bp hb.2) (pL hc _ b e h)
  ·cases e
noncomputable def eH (a b:Int×Int):Bool:=if a.1==b.1 then (if a.2==b.2 then false else decide (a.2 < b.2)) else decide (a.1 < b.1)
noncomputable def dE (ks:List (Int×Int)) (i j:Nat):Bool:=eH (ks.getD i (0,0)) (ks.getD j (0,0))
noncomputable def cA (ks:List (Int×Int)):Array Nat:=(gS ks.length (dE ks) (kas_sort ks.length)).getD #[]
noncomputable def jg (n:Nat) (c:Nat→Nat→Bool):Bool:=(List.range n).all λ i=>(List.range n).all λ j=>(List.range n).all λ k=>!(c i j&&c j k)||c i k
noncomputable def ko (n:Nat) (c:Nat→Nat→Bool):Bool:=match gS n c (kas_sort n) with
 |some p=>p.toList.isPerm (List.range n)&&(List.range (n - 1)).all λ k=>c (p.getD k 0) (p.getD (k+1) 0)
 |none=>false
noncomputable def f7:Nat→(List Bool→Bool)→Bool
 |0,p=>p []
 |n+1,p=>f7 n (λ l=>p (true::l))&&f7 n λ l=>p (false::l)
theorem eB:∀ (n:Nat) (p:List Bool→Bool),f7 n p=true→∀ l:List Bool,l.length=n→p l=true
 |0,p,h,l,hl=>by rw [List.length_eq_zero_iff.mp hl];exact h
 |n+1,p,h,l,hl=>by
  simp only [f7,Bool.and_eq_true] at h
  induction l with
  |nil=>simp at hl
  |cons b l=>
   have hl':l.length=n:=by simpa using hl
   cases b
   ·exact eB n _ h.2 l hl'
   ·exact eB n _ h.1 l hl'
noncomputable def Hp (l:List Bool) (i j:Nat):Bool:=if i < j then l.getD (match i with|0=>j - 1|1=>j+1|_=>5) false else if j < i then !(l.getD (match j with|0=>i - 1|1=>i+1|_=>5) false) else false
noncomputable def HM (l:List Bool) (i j:Nat):Bool:=if i < j then l.getD (match i with|0=>j - 1|1=>j+2|2=>j+4|_=>9) false else if j < i then !(l.getD (match j with|0=>i - 1|1=>i+2|2=>i+4|_=>9) false) else false
theorem HF:f7 6 (λ l=>!(jg 4 (Hp l))||ko 4 (Hp l))=true:=by decide+kernel
theorem Hs:f7 10 (λ l=>!(jg 5 (HM l))||ko 5 (HM l))=true:=by decide+kernel
theorem mY (a:Int×Int):eH a a=false:=by unfold eH;simp
theorem mv (a b:Int×Int):eH a b=true↔a.1 < b.1∨(a.1=b.1∧a.2 < b.2):=by
 unfold eH
 by_cases h1:a.1=b.1
 ·by_cases h2:a.2=b.2
  ·simp [h1,h2]
  ·simp [h1,h2]
 ·simp [h1]
theorem oG {a b c:Int×Int}(h1:eH a b=true) (h2:eH b c=true):eH a c=true:=by
 rw [mv] at *
 lia
theorem rH {a b:Int×Int}(h:a≠b):eH b a=!eH a b:=by
 unfold eH
 by_cases h1:a.1=b.1
 ·by_cases h2:a.2=b.2
  ·exact absurd (Prod.ext h1 h2) h
  ·have h3:¬ b.2=a.2:=λ e=>h2 e.symm
   simp only [h1,h2,h3,beq_self_eq_true,if_true,beq_iff_eq,if_false]
   rcases Int.lt_or_gt_of_ne h2 with q|q
   ·simp [q];lia
   ·have:¬ a.2 < b.2:=by lia
    simp [this];omega
 ·have h3:¬ b.1=a.1:=λ e=>h1 e.symm
  simp only [h1,h3,beq_iff_eq,if_false]
  rcases Int.lt_or_gt_of_ne h1 with q|q
  ·simp [q];lia
  ·have:¬ a.1 < b.1:=by lia
   simp [this];omega
theorem A7 {n:Nat}(hn:ks.length=n) (h45:n=4∨n=5) (nd:ks.Nodup):ko n (dE ks)=true:=by
 have tot:∀ i j,i < n→j < n→i≠j→dE ks j i=!dE ks i j:=λ i j hi hj ij=>by
  unfold dE
  refine rH λ e=>ij ?_
  rw [hW,hW,dT (by omega),dT (by omega)] at e
  have z:=List.pairwise_iff_getElem.mp nd
  rcases Nat.lt_trichotomy i j with q|q|q
  ·exact absurd e (z i j (by omega) (by omega) q)
  ·exact q
  ·exact absurd e.symm (z j i (by omega) (by omega) q)
 have irr:∀ i,dE ks i i=false:=λ i=>mY _
 have tr:jg n (dE ks)=true:=by
  unfold jg
  simp only [List.all_eq_true,List.mem_range,Bool.or_eq_true,Bool.not_eq_true',Bool.and_eq_false_iff]
  intro i _ j _ k _
  cases h1:dE ks i j with
  |false=>exact .inl (.inl rfl)
  |true=>cases h2:dE ks j k with
   |false=>exact .inl (.inr rfl)
   |true=>exact .inr (oG h1 h2)
 have key:∀ (c:Nat→Nat→Bool),(∀ i j,i < n→j < n→dE ks i j=c i j)→(!(jg n c)||ko n c)=true→ko n (dE ks)=true:=λ c hc h=>by
  have e1:jg n c=true:=by
   rw [←tr]
   unfold jg
   refine Bool.eq_iff_iff.mpr ?_
   simp only [List.all_eq_true,List.mem_range]
   constructor
   ·intro h i hi j hj k hk;have:=h i hi j hj k hk;rw [←hc i j hi hj,←hc j k hj hk,←hc i k hi hk] at this;exact this
   ·intro h i hi j hj k hk;have:=h i hi j hj k hk;rw [hc i j hi hj,hc j k hj hk,hc i k hi hk] at this;exact this
  rw [e1] at h
  have h2:ko n c=true:=by simpa using h
  unfold ko at h2⊢
  rw [jT hc]
  split at h2
  ·rename_i p hp
   simp only [Bool.and_eq_true] at h2⊢
   refine ⟨h2.1,?_⟩
   have pm:=List.isPerm_iff.mp h2.1
   have pl:p.size=n:=by have:=pm.length_eq;simpa using this
   have inn:∀ k,k < n→p.getD k 0 < n:=λ k hk=>by
    have hk':k < p.size:=by omega
    have e:p.getD k 0=p[k]:=by simp [Array.getD,hk']
    rw [e]
    have:=pm.mem_iff.mp (Array.getElem_mem_toList hk')
    exact List.mem_range.mp this
   have h3:=h2.2
   simp only [List.all_eq_true,List.mem_range] at h3⊢
   intro k hk
   rw [hc _ _ (inn k (by omega)) (inn (k+1) (by omega))]
   exact h3 k hk
  ·cases h2
 rcases h45 with rfl|rfl
 ·refine key (Hp [dE ks 0 1,dE ks 0 2,dE ks 0 3,dE ks 1 2,dE ks 1 3,dE ks 2 3]) (λ i j hi hj=>?_) (eB 6 _ HF _ rfl)
  match i,hi,j,hj with
  |0,_,0,_=>exact irr 0
  |0,_,1,_=>rfl
  |0,_,2,_=>rfl
  |0,_,3,_=>rfl
  |1,_,0,_=>exact tot 0 1 (by omega) (by omega) (by omega)
  |1,_,1,_=>exact irr 1
  |1,_,2,_=>rfl
  |1,_,3,_=>rfl
  |2,_,0,_=>exact tot 0 2 (by omega) (by omega) (by omega)
  |2,_,1,_=>exact tot 1 2 (by omega) (by omega) (by omega)
  |2,_,2,_=>exact irr 2
  |2,_,3,_=>rfl
  |3,_,0,_=>exact tot 0 3 (by omega) (by omega) (by omega)
  |3,_,1,_=>exact tot 1 3 (by omega) (by omega) (by omega)
  |3,_,2,_=>exact tot 2 3 (by omega) (by omega) (by omega)
  |3,_,3,_=>exact irr 3
 ·refine key (HM [dE ks 0 1,dE ks 0 2,dE ks 0 3,dE ks 0 4,dE ks 1 2,dE ks 1 3,dE ks 1 4,dE ks 2 3,dE ks 2 4,dE ks 3 4]) (λ i j hi hj=>?_) (eB 10 _ Hs _ rfl)
  match i,hi,j,hj with
  |0,_,0,_=>exact irr 0
  |0,_,1,_=>rfl
  |0,_,2,_=>rfl
  |0,_,3,_=>rfl
  |0,_,4,_=>rfl
  |1,_,0,_=>exact tot 0 1 (by omega) (by omega) (by omega)
  |1,_,1,_=>exact irr 1
  |1,_,2,_=>rfl
  |1,_,3,_=>rfl
  |1,_,4,_=>rfl
  |2,_,0,_=>exact tot 0 2 (by omega) (by omega) (by omega)
  |2,_,1,_=>exact tot 1 2 (by omega) (by omega) (by omega)
  |2,_,2,_=>exact irr 2
  |2,_,3,_=>rfl
  |2,_,4,_=>rfl
  |3,_,0,_=>exact tot 0 3 (by omega) (by omega) (by omega)
  |3,_,1,_=>exact tot 1 3 (by omega) (by omega) (by omega)
  |3,_,2,_=>exact tot 2 3 (by omega) (by omega) (by omega)
  |3,_,3,_=>exact irr 3
  |3,_,4,_=>rfl
  |4,_,0,_=>exact tot 0 4 (by omega) (by omega) (by lia)
  |4,_,1,_=>exact tot 1 4 (by omega) (by omega) (by lia)
  |4,_,2,_=>exact tot 2 4 (by omega) (by omega) (by lia)
  |4,_,3,_=>exact tot 3 4 (by omega) (by omega) (by lia)
  |4,_,4,_=>exact irr 4
theorem iy (h45:ks.length=4∨ks.length=5) (nd:ks.Nodup):gS ks.length (dE ks) (kas_sort ks.length)=some (cA ks)∧(cA ks).toList.Perm (List.range ks.length)∧
  ∀ k,k+1 < ks.length→dE ks ((cA ks).getD k 0) ((cA ks).getD (k+1) 0)=true:=by
 have g:=A7 rfl h45 nd
 unfold ko at g
 split at g
 ·rename_i p hp
  have e:cA ks=p:=by unfold cA;rw [hp];rfl
  rw [e]
  simp only [Bool.and_eq_true] at g
  refine ⟨hp,List.isPerm_iff.mp g.1,λ k hk=>?_⟩
  have h3:=g.2
  simp only [List.all_eq_true,List.mem_range] at h3
  exact h3 k (by omega)
 ·cases g
noncomputable def cL (own:aq):List Value→List (Int×Int)→Prop
 |[],[]=>True
 |v::vs,k::ks=>(∃ a t1 t2,v=.ref a∧(a,aU #[.int k.1 t1,.int k.2 t2] 0)∈own)∧cL own vs ks
 |_,_=>False
theorem cL.mono {own:aq}(h:∀ p∈own,p∈own'):∀ {vs:List Value}{ks:List (Int×Int)},cL own vs ks→cL own' vs ks
 |[],[],_=>trivial
 |[],_::_,x=>x.elim
 |_::_,[],x=>x.elim
 |v::vs,k::ks,⟨⟨a,t1,t2,e,m⟩,r⟩=>⟨⟨a,t1,t2,e,h _ m⟩,cL.mono h r⟩
theorem cL.snoc {own:aq}{k:Int×Int}(m:(a,aU #[.int k.1 t1,.int k.2 t2] 0)∈own):∀ {vs:List Value}{ks:List (Int×Int)},cL own vs ks→cL own (vs++[.ref a]) (ks++[k])
 |[],[],_=>⟨⟨a,t1,t2,rfl,m⟩,trivial⟩
 |[],_::_,x=>x.elim
 |_::_,[],x=>x.elim
 |v::vs,k'::ks,⟨h,r⟩=>⟨h,cL.snoc m r⟩
theorem cL.get {own:aq}:∀ {vs:List Value}{ks:List (Int×Int)},cL own vs ks→∀ i,i < vs.length→∃ a t1 t2,vs.getD i .none=.ref a∧(a,aU #[.int (ks.getD i (0,0)).1 t1,.int (ks.getD i (0,0)).2 t2] 0)∈own
 |[],[],_,i,hi=>by simp at hi
 |[],_::_,x,_,_=>x.elim
 |_::_,[],x,_,_=>x.elim
 |v::vs,k::ks,⟨⟨a,t1,t2,e,m⟩,r⟩,0,_=>⟨a,t1,t2,by simpa using e,by simpa using m⟩
 |v::vs,k::ks,⟨_,r⟩,i+1,hi=>by
  obtain ⟨a,t1,t2,e,m⟩:=cL.get r i (by simpa using hi)
  exact ⟨a,t1,t2,by simpa using e,by simpa using m⟩
section
variable {A:Around}{F:List Addr}{own:aq}
theorem cL.tups (L:ag K H h F own old):∀ {vs:List Value}{ks:List (Int×Int)},cL own vs ks→∃ fs:List Value,fs.length=vs.length∧KatTups h vs fs∧∀ v∈fs,∃ i t,v=.int i t
 |[],[],_=>⟨[],rfl,KatTups.nil,λ _ h=>nomatch h⟩
 |[],_::_,x=>x.elim
 |_::_,[],x=>x.elim
 |v::vs,k::ks,⟨⟨a,t1,t2,e,m⟩,r⟩=>by
  obtain ⟨fs,h1,h2,h3⟩:=cL.tups L r
  subst e
  refine ⟨.int k.1 t1::fs,by simp [h1],KatTups.cons (L.hown _ m).1 rfl rfl rfl h2,λ v hv=>?_⟩
  rcases bI.mp hv with rfl|hv
  ·exact ⟨_,_,rfl⟩
  ·exact h3 v hv
theorem Bd {x y:Addr}{a1 a2 b1 b2:Int}{u1 u2:Tok}{C:Bool→Shared→Prop}(hx:s.heap.get? x=some (aU #[.int a1 t1,.int a2 t2] 0)) (hy:s.heap.get? y=some (aU #[.int b1 u1,.int b2 u2] 0)) (h:C (eH (a1,a2) (b1,b2)) s):
  wpAny (model prog w) A (keyLt' (tuples' true) (.ref x) (.ref y)) C E s:=by
 refine kat_lt hx rfl hy rfl ?_
 refine kat_cons (wpAny_eqBool_int ?_)
 unfold eH at h
 refine kat_go (λ e=>kat_yes (kat_cons (wpAny_eqBool_int ?_))) λ e=>kat_no (oneLt_int ?_)
 ·rw [if_pos e] at h
  refine kat_go (λ e2=>kat_yes (kat_nil ?_)) λ e2=>kat_no (kat_one _ _ (wpAny_lt_int ?_))
  ·rw [if_pos e2] at h;exact h
  ·rw [if_neg (by rw [e2];simp)] at h;exact h
 ·rw [if_neg (by rw [e];simp)] at h;exact h
theorem ag.updSeq {n:Nat}(L:ag K H h F ((a,ab xs n)::own) old) (f:VA→VA):∃ n',ag K H (h.update a (Obj.mapSeq f)) F ((a,ab (f xs) n')::own) old:=by
 have hu:=get?_update_seq (L.ownAt 0 _ _ rfl) f
 have z:=L.update (i:=0) (f:=Obj.mapSeq f) rfl rfl rfl
 have z2:=z.ownAt 0 _ _ rfl
 rw [hu] at z2
 have z3:=bo z2
 rw [←z3] at z
 exact ⟨_,z⟩
theorem yV {q:Addr}{n0:Nat}{t:Nat}{P:PySem.Fin→Shared→Prop}(h45:ks.length=4∨ks.length=5) (hk:vs.length=ks.length) (nd:ks.Nodup)
  (L:ag K H h F ((a,ab vs.toArray n0)::own) old)
  (lam:∀ i x,vs[i]?=some x→∀ (own':aq) (h:Heap) (g:BG) (t:Nat) (Q:Value→Shared→Prop),ag K H h F own' old→
   (∀ h' (g':BG) t' kt t1 t2,ag K H h' F ((kt,aU #[.int (ks.getD i (0,0)).1 t1,.int (ks.getD i (0,0)).2 t2] 0)::own') old→Q (.ref kt) ⟨h',g',d,t',os⟩)→wpAny (model prog w) A (call (.ref q) [x]) Q (λ _ _=>False) ⟨h,g,d,t,os⟩)
  (x:∀ h' (g':BG) t' nw e,ag K H h' F ((a,ab ((cA ks).toList.map λ i=>vs.getD i .none).toArray e)::(nw++own)) old→P (.done (.ret .none)) ⟨h',g',d,t',os⟩):
  wpAny (model prog w) A (ksk_tree a (.ref q) false) P E ⟨h,g,d,t,os⟩:=by
 have hsz:vs.length≤5:=by lia
 have ho:=L.ownAt 0 _ _ rfl
 have sl:(100:Nat)≤sizeLine:=by rw [sizeLine_eq];lia
 unfold ksk_tree
 refine af (listItems_at ho rfl ?_)
 refine af (listUpdate_at ho rfl ?_ (by rw [List.size_toArray];lia) (Nat.zero_le _))
 obtain ⟨e1,L1⟩:=L.updSeq λ _=>#[]
 have hu:=L1.ownAt 0 _ _ rfl
 refine af (seqEpoch_at hu rfl ?_)
 refine af (wpAny_newTuple ?_ (by simp;lia))
 refine af (wpAny_newList ?_ (Nat.zero_le _))
 have L2:=(L1.pushed (aU vs.toArray 0) rfl).pushed (ab #[] 0) rfl
 have ea:vs.toArray.toList.toArray=vs.toArray:=by simp
 rw [ea]
 show wpAny _ A (holding _ (ksk_rest a (.ref q) false vs.toArray e1 (.ref ((h.update a (Obj.mapSeq λ _=>#[])).push (aU vs.toArray 0)).objs.size))) P E ⟨((h.update a (Obj.mapSeq λ _=>#[])).push (aU vs.toArray 0)).push (ab #[] 0),g,d,t,os⟩
 generalize ((h.update a (Obj.mapSeq λ _=>#[])).push (aU vs.toArray 0)).push (ab #[] 0)=hz at L2⊢
 generalize ((h.update a (Obj.mapSeq λ _=>#[])).push (aU vs.toArray 0)).objs.size=kS at L2⊢
 generalize (h.update a (Obj.mapSeq λ _=>#[])).objs.size=tp at L2⊢
 refine wpAny_holding ?_
 unfold ksk_rest
 refine af (wpAny_rule ?_)
 rw [←Array.forIn_toList]
 refine af (ksk_fold (λ i s=>(∀ y∈s.gens,y.bare=true)∧s.drawn=d∧s.os=os∧∃ ksv rest e,(∃ nw,rest=nw++own)∧ksv.length=i∧cL rest ksv (ks.take i)∧ag K H s.heap F ((kS,ab ksv.toArray e)::(a,ab #[] e1)::rest) old) vs 0 _ ?_ (λ j y s' hy hI=>?_) λ s' hd=>?_)
 ·refine ⟨g.2,rfl,rfl,[],[(tp,aU vs.toArray 0)]++own,0,⟨[(tp,aU vs.toArray 0)],rfl⟩,rfl,trivial,L2.perm ?_⟩
  exact (List.Perm.swap _ _ _).cons _
 ·obtain ⟨hp,g',d',t',os'⟩:=s'
  obtain ⟨hgb,rfl,rfl,ksv,rest,e,⟨nw,rfl⟩,hl,hK,LL⟩:=hI
  have hj:j < vs.length:=(j0.mp hy).1
  rw [Nat.zero_add] at hl hK
  refine af (wpAny_attempt ?_)
  refine wpAny_mono (lam j y hy _ _ ⟨g',hgb⟩ _ (λ v s''=>∃ kt t1 t2,v=.ref kt∧(∀ y∈s''.gens,y.bare=true)∧s''.drawn=d'∧s''.os=os'∧ag K H s''.heap F ((kt,aU #[.int (ks.getD j (0,0)).1 t1,.int (ks.getD j (0,0)).2 t2] 0)::((kS,ab ksv.toArray e)::(a,ab #[] e1)::(nw++own))) old) LL λ h' g' t' kt t1 t2 L'=>⟨kt,t1,t2,rfl,g'.2,rfl,rfl,L'⟩) (λ v s'' hv=>?_) λ _ _ x=>x.elim
  obtain ⟨hp2,g2,d2,t2',os2⟩:=s''
  obtain ⟨kt,t1,t2,rfl,hgb2,rfl,rfl,L'⟩:=hv
  have L'':=L'.perm (own':=(kS,ab ksv.toArray e)::(a,ab #[] e1)::((kt,aU #[.int (ks.getD j (0,0)).1 t1,.int (ks.getD j (0,0)).2 t2] 0)::(nw++own))) ((List.Perm.swap _ _ _).trans ((List.Perm.swap _ _ _).cons _))
  have hs:=L''.ownAt 0 _ _ rfl
  refine af (listUpdate_at hs rfl ?_ (by simp;lia) (by simp;lia))
  obtain ⟨e',L3⟩:=L''.updSeq (·.push (.ref kt))
  rw [show ksv.toArray.push (Value.ref kt)=(ksv++[Value.ref kt]).toArray from by simp] at L3
  refine aA ⟨rfl,hgb2,rfl,rfl,ksv++[.ref kt],(kt,aU #[.int (ks.getD j (0,0)).1 t1,.int (ks.getD j (0,0)).2 t2] 0)::(nw++own),e',⟨(kt,aU #[.int (ks.getD j (0,0)).1 t1,.int (ks.getD j (0,0)).2 t2] 0)::nw,rfl⟩,by simp [hl],?_,L3⟩
  ·rw [Nat.zero_add,List.take_succ_eq_append_getElem (by lia)]
   have e2:ks[j]'(by lia)=ks.getD j (0,0):=by simp [hW,dT (show j < ks.length by lia)]
   rw [e2]
   exact cL.snoc (.head _) (hK.mono λ p hp=>.tail _ hp)
 ·obtain ⟨hp,g',d',t',os'⟩:=s'
  obtain ⟨hgb,rfl,rfl,ksv,rest,e,⟨nw,rfl⟩,hl,hK,LL⟩:=hd
  rw [Nat.zero_add] at hl hK
  rw [hk,List.take_length] at hK
  have hs:=LL.ownAt 0 _ _ rfl
  have hK':cL ((kS,ab ksv.toArray e)::(a,ab #[] e1)::(nw++own)) ksv ks:=hK.mono λ p hp=>.tail _ (.tail _ hp)
  refine af (listItems_at hs rfl ?_)
  have hn2:¬ vs.toArray.size < 2:=by rw [List.size_toArray];lia
  unfold ksk_end
  dsimp only
  rw [if_neg (by simp)]
  rw [if_neg hn2,if_neg hn2]
  obtain ⟨fs,f1,f2,f3⟩:=hK'.tups LL
  have hTint:∀ v∈fs,Looks (model prog w) hp (typeOf v) (.type "int"):=λ v hv=>by
   obtain ⟨i,t,rfl⟩:=f3 v hv
   exact λ A Q E s _ hq=>wpAny_of_eq (a:=Value.type "int") rfl hq
  refine af (kat_kind (T:=.type "int") f2 (by lia) hTint rfl ?_)
  have hKK:(((.type "int":Value)!=Value.type "tuple"))=true:=by decide
  rw [hKK]
  obtain ⟨s1,s2,s3⟩:=iy h45 nd
  refine af (wpAny_mono (kat_run (ks:=ksv) (vs:=vs) (Q:=λ st' s'=>(arrOf st').map (·.2)=List.toArray ((cA ks).toList.map λ i=>vs.getD i .none)∧failedOf st'=none∧s'=⟨hp,g',d',t',os'⟩) (G:=λ p s'=>p=cA ks∧s'=⟨hp,g',d',t',os'⟩) (by lia) (by lia) (by lia)
   (λ p st' s' a1 a2 a3 a4=>by obtain ⟨rfl,rfl⟩:=a4;exact ⟨kat_snds (by lia) a2,a3,rfl⟩) ?_) ?_ λ _ _ e=>e)
  ·rw [hk]
   refine pL (n:=ks.length) (c:=dE ks) (λ i j C hi hj hC=>?_) _ _ s1 ⟨rfl,rfl⟩
   obtain ⟨x1,u1,u2,e3,m3⟩:=hK'.get i (by lia)
   obtain ⟨x2,u3,u4,e4,m4⟩:=hK'.get j (by lia)
   unfold kas_ask
   rw [e3,e4]
   exact Bd (LL.hown _ m3).1 (LL.hown _ m4).1 hC
  ·rintro ⟨⟨⟩,st'⟩ s' ⟨hout,hf,rfl⟩
   dsimp only
   unfold ksk_tail
   dsimp only
   rw [hout]
   refine af (listUpdate_at hs rfl ?_ (by simp;lia) (Nat.zero_le _))
   refine af (wpAny_letGo ?_)
   obtain ⟨e2,L3⟩:=LL.updSeq λ _=>#[]
   have L3:=L3.perm (List.Perm.swap _ _ _)
   have ha:=L3.ownAt 0 _ _ rfl
   refine af (seqEpoch_at ha rfl ?_)
   refine af (listUpdate_at ha rfl ?_ (Nat.zero_le _) (by
    have:=s2.length_eq
    simp at this⊢;lia))
   rw [hf]
   simp only [bne_self_eq_false,Bool.false_eq_true,if_false]
   obtain ⟨e3,L4⟩:=L3.updSeq λ _=>((cA ks).toList.map λ i=>vs.getD i .none).toArray
   exact aA (x _ ⟨g',hgb⟩ _ ((kS,_)::nw) _ L4)
end
noncomputable def uD:dQ w P:=⟨sk "int.__mod__" (fF λ a b=>⟨.i (a.fmod b),[.b (b==0) false],[]⟩),
 eA w P (F.slot_int_mod).plain F.entry_int_mod _ λ as r h hq hp=>by
  obtain ⟨a,t,b,u,rfl,rfl⟩:=de h
  have h1:(b==0)=false:=hq _ (.head _)
  exact AutoIntG6.int___mod___int_int_1 a t b u (by simpa using h1)⟩
section
open PySem.SeqAt
theorem nL {o s:Obj}{vl:Value}{k:Int}{zs:VA}(q1:e.at i=some (a',o)) (q2:e.at j=some (b',s)) (pl:IsPart vl lo) (pu:IsPart vu hi) (hz:0≤k→slicePick (ad o) lo hi none=zs):
  sW (.builtin "list.__getitem__" ⟨[.ref a,.ref b],[]⟩) e ⟨λ z=>.ok (.ret (.ref (z 0))),λ z=>(z 0,ab zs 0)::e.own,[.v (.ref a) (.ref a'),.v (.ref b) (.ref b'),.o o (ab (ad o) (ao o)),.o s (ri vl vu)],[(ad o).size≤1000∧0≤k]⟩:=λ w P hq ho H F' h g d t os R L hp x=>by
 rw [bz (hq _ (.head _)),bz (hq _ bU)]
 have e5:=ho _ (.head _)
 exact mh (LE.get L hp q1) (congrArg Obj.data (hq _ fG)) ((LE.get L hp q2).trans (congrArg some (hq _ jX))) pl pu (cP e5.1 (cP (by decide) bS)) zs (hz e5.2) λ ra h' T=>x (λ _=>ra) _ _ _ (λ _=>rfl) (T _ _ _ _ _ L)
theorem wh {k:Int}(h:0≤k):slicePick xs none (some k) none=(xs.toList.take k.toNat).toArray:=by
 obtain ⟨kk,rfl⟩:=Int.eq_ofNat_of_zero_le h;exact slicePick_upto' _ _
theorem wP {k:Int}(h:0≤k):slicePick xs (some k) none none=(xs.toList.drop k.toNat).toArray:=by
 obtain ⟨kk,rfl⟩:=Int.eq_ofNat_of_zero_le h;exact slicePick_from' _ _
noncomputable def yI (as:List Value) (l:List Nat) (e:LE):CX "list.__getitem__" as e:=match as with
 |[p,q]=>match p with
  |.ref a=>match q with
   |.ref b=>cH e l a λ i a' o l' hi=>cH e l' b λ j b' s _ hj=>match bm s 0 with
    |.none=>match bm s 1 with
     |.int k _=>jz _ (nL (vl:=.none) (vu:=.int k (bE (bm s 1))) hi hj IsPart.none (IsPart.int _ _) wh)
     |_=>cG
    |.int k _=>match bm s 1 with
     |.none=>jz _ (nL (vl:=.int k (bE (bm s 0))) (vu:=.none) hi hj (IsPart.int _ _) IsPart.none wP)
     |_=>cG
    |_=>cG
   |_=>cG
  |_=>cG
 |_=>cG
noncomputable def uv:Ct:=ef "list.__getitem__" yI
theorem sU (w:World) (P:KF):cT pg w (KP w P) uv:=bH _ w P
noncomputable abbrev gK:dQ w P:=⟨uv,sU w P⟩
noncomputable def D3 (as:List Value) (l:List Nat) (e:LE):CX "list.__setitem__" as e:=match as with
 |[p,q,v]=>match p with
  |.ref a=>match q with
   |.int k tk=>gR e l a λ i a' o l' hi=>jz ⟨λ _=>.ok (.ret .none),λ z=>e.own.set i (a',ab ((ad o).setIfInBounds k.toNat v) (z 0)),
    [.v (.ref a) (.ref a'),.o o (ab (ad o) (ao o))],[0≤k∧k < (ad o).size∧(ad o).size≤1000]⟩ λ w P hq ho H F' h g d t os R L hp x=>by
     have e1:a=a':=bz (hq _ (.head _))
     have e3:o=ab (ad o) (ao o):=hq _ bU
     obtain ⟨h0,hn,hsz⟩:0≤k∧k < (ad o).size∧(ad o).size≤1000:=ho _ (.head _)
     subst e1
     have ho':=L.ownAt _ _ _ hi
     have hd:o.data=.seq (ad o) (ao o):=by rw [e3];rfl
     have hfit:k < 2 ^ 63:=by lia
     refine dt entry_list_setitem ?_
     rw [i0 slot_list_setitem.plain]
     show wpAny _ _ (Builtin.List.listSubscript? (.int k tk)>>=_) _ _ _
     refine af (wpAny_listSubscript_int (fitsIndex_of h0 hfit) ?_)
     clear hfit
     obtain ⟨j,rfl⟩:=Int.eq_ofNat_of_zero_le h0
     have hj:j < (ad o).size:=by lia
     have hx':(ad o)[j]?=some (ad o)[j]:=i9 hj
     show wpAny _ _ ((seqItemAt a j>>=λ r=>pure (r.map (j,·)))>>=_) _ _ _
     refine af (af (wpAny_seqItemAt ho' hd (aA ?_)))
     rw [hx']
     show wpAny _ _ (setSeqItemAt a j v>>=_) _ _ _
     refine af (wpAny_setSeqItemAt ho' hd ?_)
     have e7:Obj.mapSeq (·.setIfInBounds j v) o=ab ((ad o).setIfInBounds j v) (ao (Obj.mapSeq (·.setIfInBounds j v) o)):=by
      rw [e3];simp [Obj.mapSeq,ao,ad]
     have L1:=L.update (f:=Obj.mapSeq (·.setIfInBounds j v)) hi e7 rfl
     have z:=x (λ _=>ao (Obj.mapSeq (·.setIfInBounds j v) o)) _ g t (λ _=>rfl) L1
     first
      |exact af (aA (aA z))
      |exact aA z
   |_=>cG
  |_=>cG
 |_=>cG
noncomputable def CN:Ct:=ef "list.__setitem__" D3
theorem yh (w:World) (P:KF):cT pg w (KP w P) CN:=bH _ w P
noncomputable abbrev GB:dQ w P:=⟨CN,yh w P⟩
noncomputable def Cx (xs:VA) (x:Value) (r:Bool):Prop:=∃ e:Value→Bool,(∀ y,y∈xs→G5 y x (e y))∧xs.any e=r
noncomputable def Ge (r:Bool) (as:List Value) (l:List Nat) (e:LE):CX "list.__contains__" as e:=match as with
 |[p,v]=>match p with
  |.ref a=>cH e l a λ i a' o _ hi=>jz ⟨λ _=>.ok (.ret (.bool r)),λ _=>e.own,
   [.v (.ref a) (.ref a'),.o o (ab (ad o) (ao o))],[Cx (ad o) v r]⟩ λ w P hq ho H F' h g d t os R L hp x=>by
    rw [bz (hq _ (.head _))]
    obtain ⟨ee,he,e4⟩:Cx (ad o) v r:=ho _ (.head _)
    rw [←e4] at x
    exact bw (F.slot_list_contains).plain F.entry_list_contains (list_containsAt a' (ad o) (ao o) none #[] v ee) ⟨(LE.get L hp hi).trans (congrArg some (hq _ bU)),λ y hy=>(he y hy).at _ _,x (λ _=>0) h g t (λ _=>rfl) L⟩
  |_=>cG
 |_=>cG
noncomputable def Ga (r:Bool):Ct:=ef "list.__contains__" (Ge r)
theorem Cu (w:World) (P:KF) (r:Bool):cT pg w (KP w P) (Ga r):=bH _ w P
noncomputable abbrev G4 (r:Bool):dQ w P:=⟨Ga r,Cu w P r⟩
end
section
end
end
section
variable {w:World}{P K:KF}{H hh h h':Heap}{gg g:BG}{dr d:Drawn}{tt it gf i fn m dn k t₀ tot j acc an N dp un sz n0 lv bv:Nat}{os:OsState}{pp dd ac gen u a ea tb b cl pt a':Addr}{so o92 o99 oe ot o2 o' o1:Obj}{f ga txt letter:Str}{tf tq tga tgb t0 t1 t2 ta vt tk:Tok}{gb fb:Nat→Bool}{po:Pos}{v1 v2:Value}{c vc₁:Code}{V:RV}{R:RP}{M:Model}{s:Shared}{Q:Flow→Shared→Prop}{E:Value→Shared→Prop}{t:Nat→Tok}{p:Addr×Obj}{target e:PySem.Expr}{env:Env}{ex0 fl rest S vo tl fl':aq}{l z:Nat→Nat}{es:List (Str×Tok×Value)}{sl:iT}{vs as args:List Value}{ys:VA}{r:RS}{vh:Option Value}{vb:List Prop}{vf:Result}{β α:Type}{v':Nat→Int}{num T:Int}{prog:Program}{l1:List Stmt}{pdf:Nat→Addr}{ns:List Int}
section
variable {A:Around}{it gf st:Addr}{xs:VA}{n nq:Nat}{q:Str}{gb:Str}{k:Resume→Sem PySem.Fin}{kl:List Value}
noncomputable def xz:PySem.Expr:=match fB (ms 8 4) with
 |[.Return (some (.Call _ [g,_] _ _)) _]=>g
 |_=>default
noncomputable def zP (gf ac:Addr):Env:={ scope:=Cj xz,locals:=gf,globals:=3,cells:=[],qual:="_Accumulator.__len__.<locals>.<genexpr>.",func:=none,code:=.ref ac,frame:=some gf,builtins:=0 }
noncomputable abbrev fV (it gf ac:Addr):Code:=.compLoop xz 0 (.ref it) .none (zP gf ac)
noncomputable abbrev oR (it gf ac:Addr):Code:=.compStart xz 0 (.ref it) .none (zP gf ac)
noncomputable abbrev fc (g:Nat) (a:Str) (ta:Tok) (b:Str) (tb:Tok):Obj:=dS (.type "generator") #[.int g 0,.str a ta,.str b tb]
noncomputable def jF (c:Code) (k:Resume→Sem PySem.Fin):Resume→Sem PySem.Fin:=λ r=>match r with
 |.send v=>match v with
  |.none=>.pure (.again c)
  |_=>k r
 |.throw _=>k r
theorem gN {k:Resume→Sem PySem.Fin}(hk:k (.send .none)=.pure (.again c)):jF c k=k:=by
 funext r
 induction r with
 |throw e=>rfl
 |send v=>induction v<;>first|exact hk.symm|rfl
theorem HB (O:V.toRF.Ok) (x:GenState) (hs:List Hn) {A:Around}{own old:aq}(L:ag V.K V.H h V.F own old) (hn:h.objs.size=V.n) (y:∀ ps,(tY V hs A c [x] own old ps).FineOf V):
  codeAny (model V.prog V.w) A c V.R ⟨h,V.gg.1.push x,V.d,V.t₀,V.os⟩:=by
 have z:=IY O [x] hs L hn y
 rw [iB] at z
 exact z
theorem wZ {pf old:aq}{F:List Addr}{n:Nat}(cs:List (dQ w P)) (hp:∀ p∈pf,KP w P p.1=some p.2) (x:GenState) (hs:List Hn) {A:Around}{own:aq}(L:ag (KP w P) H h F own old) (hn:h.objs.size=n) (y:∀ ps,(tY (vc w P cs pf old H F n t₀ gg d os R) hs A c [x] own old ps).FineOf (vc w P cs pf old H F n t₀ gg d os R)):
 codeAny (model pg w) A c R ⟨h,gg.1.push x,d,t₀,os⟩:=HB (cR hp) x hs L hn y
noncomputable abbrev AG:Around:=⟨none,720,none,none,2700⟩
noncomputable abbrev pF (w:World) (it:Addr) (t0:Tok) (js:List (Str×Tok×Value)) (fn:Nat):Obj:=br w (en ".0" t0 (.ref it)::js) fn
noncomputable def Ai (js:List (Str×Tok×Value)):Prop:=∃ t1 v1 t2 v2,js=[en "fws" t1 v1,en "part" t2 v2]
theorem vQ (hu:KP w P u=some (aU #[.str f tf,.str q tq] 0)) (hx:xs[0]?=some (.ref u)) (hf:f.length≤1000) (hq:q.length≤1000) (R:RP)
  (L:ag (KP w P) H hh [it,gf,st] [(it,cr pp (0:Nat)),(gf,pF w it t0 [] fn),(st,so)] [(gen,fc gg.1.size ga tga gb tgb),(pp,ax dd xs n)])
  (hR:∀ h' k l po tk' t' js fn',Ai js→k (.send .none)=.pure (.again (fV it gf ac))→ag (KP w P) H h' [it,gf,st] [(it,cr pp (1:Nat)),(gf,pF w it t0 js fn'),(st,so)] [(gen,fc gg.1.size ga tga gb tgb),(pp,ax dd xs n)]→
   R (.ok (.ret (.int (f.length+q.length) tk'))) ⟨h',gg.1.push (.suspended k l (fV it gf ac) po [] false),dr,t',os⟩):
  codeAny (model pg w) AG (.call (.builtin "generator.__next__") ⟨[.ref gen],[]⟩) R ⟨hh,gg.1.push (.fresh (oR it gf ac)),dr,tt,os⟩:=by
 obtain ⟨N,hN⟩:=bd hh
 obtain ⟨w,b,rfl⟩:=cB w
 obtain ⟨w,c,rfl⟩:=gE "comprehension-iter-twice" w
 cases c
 ·refine wZ (pf:=[(u,aU #[.str f tf,.str q tq] 0)]) [jY xs 0 (.ref u)] (λ p hp=>by rw [ci.mp hp];exact hu) (.fresh (oR it gf ac)) [aD,.a 0,aD,.k,U,U,.e,U,.e,U,.e,U,.c 0 [0,1001],U,aL,aL,aL,.e,aL,.e,U,U,.e,U,.e,U,U,aL,U,U,U,.e,U,.e,U,U,aL,U,U,U,.e,U,.e,U,U,aL,U,U,U,aK,aK,aK,aK,.k,.k,aK,.n 0,.k,.k,aK,.n 0,.e,.e] L hN λ ps=>?_
  refine fD (t:=.pure (.again (fV it gf ac))) (c:=fV it gf ac) [3,4,5] 1000 [] ⟨.ok (.ret (.int (Int.ofNat (f.length+q.length)) ((ps 1).4+6))),[(it,cr pp 1),(gf,br w [(".0",t0,.ref it),("fws",(ps 1).4,.str f tf),("part",(ps 1).4+1,.str q tq)] (fn+2)),(st,so)],[q.length≤(1000:Nat),f.length≤(1000:Nat),xs[(0:Nat)]?=some (Value.ref u)]⟩ rfl (by apply bq b;kernel_rfl) (by apply bq b;kernel_rfl) (by apply bq b;kernel_rfl) (by decide) rfl ?_ λ h' t' k l po ek L'=>?_
  ·repeat' first|exact ae|refine aa ?_ ?_
   all_goals first|exact hf|exact hq|exact hx
  exact hR _ _ _ _ _ _ _ _ ⟨_,_,_,_,rfl⟩ ek L'
 ·refine wZ (pf:=[(u,aU #[.str f tf,.str q tq] 0)]) [jY xs 0 (.ref u)] (λ p hp=>by rw [ci.mp hp];exact hu) (.fresh (oR it gf ac)) [aD,.a 0,aD,.k,.e,U,.c 0 [0,1001],U,aL,aL,aL,.e,aL,.e,U,U,.e,U,.e,U,U,aL,U,U,U,.e,U,.e,U,U,aL,U,U,U,.e,U,.e,U,U,aL,U,U,U,aK,aK,aK,aK,.k,.k,aK,.n 0,.k,.k,aK,.n 0,.e,.e] L hN λ ps=>?_
  refine fD (t:=.pure (.again (fV it gf ac))) (c:=fV it gf ac) [3,4,5] 1000 [] ⟨.ok (.ret (.int (Int.ofNat (f.length+q.length)) ((ps 0).4+6))),[(it,cr pp 1),(gf,br w [(".0",t0,.ref it),("fws",(ps 0).4,.str f tf),("part",(ps 0).4+1,.str q tq)] (fn+2)),(st,so)],[q.length≤(1000:Nat),f.length≤(1000:Nat),xs[(0:Nat)]?=some (Value.ref u)]⟩ rfl (by apply bq b;kernel_rfl) (by apply bq b;kernel_rfl) (by apply bq b;kernel_rfl) (by decide) rfl ?_ λ h' t' k l po ek L'=>?_
  ·repeat' first|exact ae|refine aa ?_ ?_
   all_goals first|exact hf|exact hq|exact hx
  exact hR _ _ _ _ _ _ _ _ ⟨_,_,_,_,rfl⟩ ek L'
theorem zw {js:List (Str×Tok×Value)}(hj:Ai js) (hu:KP w P u=some (aU #[.str f tf,.str q tq] 0)) (hx:xs[i]?=some (.ref u)) (hf:f.length≤1000) (hq:q.length≤1000) (hk:k (.send .none)=.pure (.again (fV it gf ac))) (R:RP)
  (L:ag (KP w P) H hh [it,gf,st] [(it,cr pp i),(gf,pF w it t0 js fn),(st,so)] [(gen,fc gg.1.size ga tga gb tgb),(pp,ax dd xs n)])
  (hR:∀ h' k l po tk' t' js fn',Ai js→k (.send .none)=.pure (.again (fV it gf ac))→ag (KP w P) H h' [it,gf,st] [(it,cr pp (i+1:Nat)),(gf,pF w it t0 js fn'),(st,so)] [(gen,fc gg.1.size ga tga gb tgb),(pp,ax dd xs n)]→
   R (.ok (.ret (.int (f.length+q.length) tk'))) ⟨h',gg.1.push (.suspended k l (fV it gf ac) po [] false),dr,t',os⟩):
  codeAny (model pg w) AG (.call (.builtin "generator.__next__") ⟨[.ref gen],[]⟩) R ⟨hh,gg.1.push (.suspended k kl (fV it gf ac) po [] false),dr,tt,os⟩:=by
 obtain ⟨N,hN⟩:=bd hh
 obtain ⟨t1,v1,t2,v2,rfl⟩:=hj
 obtain ⟨w,b,rfl⟩:=cB w
 rw [←gN hk]
 refine wZ (pf:=[(u,aU #[.str f tf,.str q tq] 0)]) [jY xs i (.ref u)] (λ p hp=>by rw [ci.mp hp];exact hu) (.suspended (jF (fV it gf ac) k) kl (fV it gf ac) po [] false) [aD,.a 0,aD,.k,.e,U,.c 0 [0,1001],U,aL,aL,aL,.e,aL,.e,U,U,.e,U,.e,U,U,aL,U,U,U,.e,U,.e,U,U,aL,U,U,U,.e,U,.e,U,U,aL,U,U,U,aK,aK,aK,aK,.k,.k,aK,.n 0,.k,.k,aK,.n 0,.e,.e] L hN λ ps=>?_
 refine fD (t:=.pure (.again (fV it gf ac))) (c:=fV it gf ac) [3,4,5] 1000 [] ⟨.ok (.ret (.int (Int.ofNat (f.length+q.length)) ((ps 0).4+6))),[(it,i4 pp (i+1)),(gf,br w [(".0",t0,.ref it),("fws",t1,.str f tf),("part",t2,.str q tq)] fn),(st,so)],[q.length≤(1000:Nat),f.length≤(1000:Nat),xs[i]?=some (Value.ref u)]⟩ rfl (by apply bq b;kernel_rfl) (by apply bq b;kernel_rfl) (by apply bq b;kernel_rfl) (by decide) rfl ?_ λ h' t' k l po ek L'=>?_
 ·repeat' first|exact ae|refine aa ?_ ?_
  all_goals first|exact hf|exact hq|exact hx
 exact hR _ _ _ _ _ _ _ _ ⟨_,_,_,_,rfl⟩ ek L'
theorem Cc {o:Obj}(hk:k (.send .none)=.pure (.again (fV it gf ac))) (R:RP)
  (L:ag (KP w P) H hh [it,gf,st] [(it,cr pp xs.size),(gf,o),(st,so)] [(gen,fc gg.1.size ga tga gb tgb),(pp,ax dd xs n)])
  (hR:∀ h' t' a b,ag (KP w P) H h' [it,gf,st] [(it,jW xs.size),(gf,o),(st,so),(a,eX b)] [(gen,fc gg.1.size ga tga gb tgb),(pp,ax dd xs n)]→
   R (.error (.ref a)) ⟨h',gg.1.push .finished,dr,t',os⟩):
  codeAny (model pg w) AG (.call (.builtin "generator.__next__") ⟨[.ref gen],[]⟩) R ⟨hh,gg.1.push (.suspended k kl (fV it gf ac) po [] false),dr,tt,os⟩:=by
 obtain ⟨N,hN⟩:=bd hh
 rw [←gN hk]
 refine wZ [nj xs] am (.suspended (jF (fV it gf ac) k) kl (fV it gf ac) po [] false) [aD,.a 0,aD,.k,.e,U,.c 0 [0,1001],U] L hN λ ps=>?_
 refine gy [4,5,6,0] 1000 [] ⟨.error (.ref ((ps 0).3+1)),[(it,jW xs.size),(gf,o),(st,so),((ps 0).3+1,eX ((ps 0).3))],[]⟩ rfl (by kernel_rfl) (by kernel_rfl) (by decide) rfl ae λ h' t' L'=>?_
 exact hR _ _ _ _ L'
theorem yc {o:Obj}(h0:xs.size=0) (R:RP)
  (L:ag (KP w P) H hh [it,gf,st] [(it,cr pp xs.size),(gf,o),(st,so)] [(gen,fc gg.1.size ga tga gb tgb),(pp,ax dd xs n)])
  (hR:∀ h' t' a b,ag (KP w P) H h' [it,gf,st] [(it,jW xs.size),(gf,o),(st,so),(a,eX b)] [(gen,fc gg.1.size ga tga gb tgb),(pp,ax dd xs n)]→
   R (.error (.ref a)) ⟨h',gg.1.push .finished,dr,t',os⟩):
  codeAny (model pg w) AG (.call (.builtin "generator.__next__") ⟨[.ref gen],[]⟩) R ⟨hh,gg.1.push (.fresh (oR it gf ac)),dr,tt,os⟩:=by
 obtain ⟨N,hN⟩:=bd hh
 obtain ⟨w,b,rfl⟩:=cB w
 obtain ⟨w,c,rfl⟩:=gE "comprehension-iter-twice" w
 cases c
 ·refine wZ [nj xs] am (.fresh (oR it gf ac)) [aD,.a 0,aD,.k,U,U,.e,U,.e,U,.e,U,.c 0 [0,1001],U] L hN λ ps=>?_
  refine gy [4,5,6,0] 1000 [] ⟨.error (.ref ((ps 1).3+1)),[(it,jW xs.size),(gf,o),(st,so),((ps 1).3+1,eX ((ps 1).3))],[]⟩ rfl (by apply bq b;kernel_rfl) (by apply bq b;kernel_rfl) (by decide) rfl ae λ h' t' L'=>?_
  exact hR _ _ _ _ L'
 ·refine wZ [nj xs] am (.fresh (oR it gf ac)) [aD,.a 0,aD,.k,.e,U,.c 0 [0,1001],U] L hN λ ps=>?_
  refine gy [4,5,6,0] 1000 [] ⟨.error (.ref ((ps 0).3+1)),[(it,jW xs.size),(gf,o),(st,so),((ps 0).3+1,eX ((ps 0).3))],[]⟩ rfl (by apply bq b;kernel_rfl) (by apply bq b;kernel_rfl) (by decide) rfl ae λ h' t' L'=>?_
  exact hR _ _ _ _ L'
end
noncomputable def nx (i:Int):Bool:=-(2 ^ 63)≤i&&i < 2 ^ 63
theorem yf {A:Around}{gen:Value}{st:Addr}{a:Int}{c:Nat}{Q:PySem.Fin→Shared→Prop}(hS:s.heap.get? st=some (ab #[.int a ta] c))
  (hn:wpAny M A (pyNext gen) (λ r s'=>∃ b tb,r=some (.int b tb)∧(nx b&&nx (a+b))=true∧
   wpAny M A (mkInt (a+b)>>=λ total=>(updateSeq st (λ _=>#[total])>>=λ _=>again (.builtin "sum.loop" ⟨[gen,.ref st,rawInt 0,rawInt 0],[]⟩):Sem PySem.Fin)) Q E s')
   (λ e s'=>wpAny M A ((updateSeq st (λ _=>#[])>>=λ _=>letGo [Value.int a ta] [e]>>=λ _=>throw e:Sem (Option Value))) (λ _ _=>False) E s') s):
  wpAny M A (Builtin.«sum.loop» ⟨[gen,.ref st,.int 0 0,.int 0 0],[]⟩) Q E s:=by
 show wpAny _ _ (seqItems? (.ref st)>>=_) _ _ s
 refine af (wpAny_seqItems hS rfl ?_)
 show wpAny _ _ (tryCatch (pyNext gen) _>>=_) _ _ _
 refine af (wpAny_tryCatch (wpAny_mono hn (λ r s' h'=>?_) λ e s' h'=>?_))
 ·obtain ⟨b,tb,rfl,fit,x⟩:=h'
  show wpAny _ A (if (_:Bool)=true then (mkInt (a+b)>>=_) else _) _ _ _
  split
  ·exact x
  ·rename_i hno
   exact absurd fit hno
 ·exact wpAny_mono h' (λ _ _ h=>h.elim) λ _ _ h=>h
theorem BV {A:Around}{gen:Value}{st:Addr}{a:Int}{c:Nat}{Q:PySem.Fin→Shared→Prop}(hS:s.heap.get? st=some (ab #[.int a ta] c))
  (hn:wpAny M A (pyNext gen) (λ r s'=>r=none∧Q (.done (.ret (.int a ta))) s')
   (λ e s'=>wpAny M A ((updateSeq st (λ _=>#[])>>=λ _=>letGo [Value.int a ta] [e]>>=λ _=>throw e:Sem (Option Value))) (λ _ _=>False) E s') s):
  wpAny M A (Builtin.«sum.loop» ⟨[gen,.ref st,.int 0 0,.int 0 0],[]⟩) Q E s:=by
 show wpAny _ _ (seqItems? (.ref st)>>=_) _ _ s
 refine af (wpAny_seqItems hS rfl ?_)
 show wpAny _ _ (tryCatch (pyNext gen) _>>=_) _ _ _
 refine af (wpAny_tryCatch (wpAny_mono hn (λ r s' h'=>?_) λ e s' h'=>?_))
 ·obtain ⟨rfl,x⟩:=h'
  exact aA x
 ·exact wpAny_mono h' (λ _ _ h=>h.elim) λ _ _ h=>h
section
variable {A:Around}{it gf st:Addr}{xs:VA}{n nq:Nat}{q:Str}{gb:Str}
theorem jL {A:Around}{o:Obj}{Q:Option Value→Shared→Prop}(hg:s.heap.get? gen=some o) (hc:o.cls=.type "generator")
  (x:codeAny (model pg w) A (.call (.builtin "generator.__next__") ⟨[.ref gen],[]⟩) (λ r s'=>match r with|.ok (.ret v)=>Q (some v) s'|.ok _=>False|.error e=>(∃ a b,e=.ref a∧s'.heap.get? a=some (eX b))∧Q none s') s):
  wpAny (model pg w) A (pyNext (.ref gen)) Q E s:=by
 have hT:s.TypeIs (.ref gen) "generator":=⟨_,hg,hc⟩
 unfold pyNext
 refine af (wpAny_attempt (wpAny_callSpecial?_slot (name:=Str.ofString "__next__") hT slot_gen_next (wpAny_call (codeAny_mono x λ r s' h'=>?_))))
 induction r with
 |ok fl=>
  induction fl with
  |ret v=>exact aA h'
  |_=>exact h'.elim
 |error e=>
  obtain ⟨⟨a,b,rfl,ha⟩,hQ⟩:=h'
  refine af (wpAny_isInstance (T:="StopIteration") (b:=true) ⟨_,ha,rfl⟩ isSubtype_stop ?_)
  exact aA hQ
noncomputable def bM (V:Nat→Nat):Nat→Nat
 |0=>0
 |i+1=>bM V i+V i
noncomputable def aZ (w:World) (P:KF) (xs:VA) (pc:Nat→Str×Str):Prop:=xs.size≤1000∧∀ i,i < xs.size→(pc i).1.length≤1000∧(pc i).2.length≤1000∧∃ u tf tq,xs[i]?=some (.ref u)∧KP w P u=some (aU #[.str (pc i).1 tf,.str (pc i).2 tq] 0)
noncomputable def bL (pc:Nat→Str×Str) (i:Nat):Nat:=(pc i).1.length+(pc i).2.length
theorem Cv {pc:Nat→Str×Str}(h:∀ i,i < k→bL pc i≤2000):∀ i,i≤k→bM (bL pc) i≤2000 * i:=by
 intro i
 induction i with
 |zero=>intro _;exact Nat.le_refl _
 |succ i ih=>intro hi;have:=ih (by lia);have:=h i (by lia);simp only [bM];lia
theorem ie {a:Int}(h0:0≤a) (h1:a < 2 ^ 62):nx a=true:=by
 unfold nx
 simp only [Bool.and_eq_true,decide_eq_true_eq]
 lia
noncomputable def Gc (C:Nat) (it gf ac:Addr) (i:Nat) (x:GenState):Prop:=(i=0∧x=.fresh (oR it gf ac))∨(0 < i∧∃ k kl po,x=.suspended k kl (fV it gf ac) po [] false∧k (.send .none)=.pure (.again (fV it gf ac)))
noncomputable abbrev AS:Around:=⟨none,680,none,none,2400⟩
noncomputable abbrev Cm (gen st:Addr):Code:=.builtin "sum.loop" ⟨[.ref gen,.ref st,.int 0 0,.int 0 0],[]⟩
theorem tU {pc:Nat→Str×Str}(hp:aZ w P xs pc) (R:RP)
  (hR:∀ h' t' js fn' tk c,ag (KP w P) H h' [it,gf,st] [(it,jW xs.size),(gf,pF w it t0 js fn'),(st,ab #[.int (bM (bL pc) xs.size) tk] c)] [(gen,fc gg.1.size ga tga gb tgb),(pp,ax dd xs n)]→
   R (.ok (.ret (.int (bM (bL pc) xs.size) tk))) ⟨h',gg.1.push .finished,dr,t',os⟩):
  ∀ kk i,i+kk=xs.size→∀ h x t js fn tk c,Gc 0 it gf ac i x→(i=0∧js=[]∨0 < i∧Ai js)→
   ag (KP w P) H h [it,gf,st] [(it,cr pp i),(gf,pF w it t0 js fn),(st,ab #[.int (bM (bL pc) i) tk] c)] [(gen,fc gg.1.size ga tga gb tgb),(pp,ax dd xs n)]→
   codeAny (model pg w) AS (Cm gen st) R ⟨h,gg.1.push x,dr,t,os⟩:=by
 obtain ⟨hsz,hpc⟩:=hp
 have arG:Ar AS.in1 AG:=⟨rfl,by decide,.inl rfl,.inl rfl,by decide⟩
 intro kk
 induction kk with
 |zero=>
  intro i hi h x t js fn tk c hx hj L
  have hin:i=xs.size:=by lia
  subst hin
  have hS:=L.ownAt 2 _ _ rfl
  have hg:=L.oldAt 0 _ _ rfl
  refine dt F.entry_sum_loop ?_
  rw [i0 F.plain_sum_loop _]
  refine BV hS (jL hg rfl (aM arG ?_))
  rcases hx with ⟨h0,rfl⟩|⟨_,k,kl,po,rfl,hk⟩
  ·refine yc h0 _ L λ h' t' a b L'=>⟨⟨a,b,rfl,L'.ownAt 3 _ _ rfl⟩,rfl,?_⟩
   exact hR h' t' js fn tk c (L'.sub _ _ (.cons_cons _ (.cons_cons _ (.cons_cons _ (.cons _ .slnil)))) (λ p hp=>bu _ hp) (by
    have:=L'.nd
    simp only [aW,List.map_cons,List.map_nil] at this⊢
    exact this.sublist (.append (.cons_cons _ (.cons_cons _ (.cons_cons _ (.cons _ .slnil)))) (List.Sublist.refl _))) (λ a ha=>by simpa using ha))
  ·refine Cc hk _ L λ h' t' a b L'=>⟨⟨a,b,rfl,L'.ownAt 3 _ _ rfl⟩,rfl,?_⟩
   exact hR h' t' js fn tk c (L'.sub _ _ (.cons_cons _ (.cons_cons _ (.cons_cons _ (.cons _ .slnil)))) (λ p hp=>bu _ hp) (by
    have:=L'.nd
    simp only [aW,List.map_cons,List.map_nil] at this⊢
    exact this.sublist (.append (.cons_cons _ (.cons_cons _ (.cons_cons _ (.cons _ .slnil)))) (List.Sublist.refl _))) (λ a ha=>by simpa using ha))
 |succ kk ih=>
  intro i hi h x t js fn tk c hx hj L
  have hlt:i < xs.size:=by lia
  obtain ⟨lf,lq,u,tf,tq,hxi,hu⟩:=hpc i hlt
  have hS:=L.ownAt 2 _ _ rfl
  have hg:=L.oldAt 0 _ _ rfl
  refine dt F.entry_sum_loop ?_
  rw [i0 F.plain_sum_loop _]
  refine yf hS (jL hg rfl (aM arG ?_))
  have hb:=Cv (pc:=pc) (k:=xs.size) (λ j hj=>by obtain ⟨a,b,_⟩:=hpc j hj;unfold bL;lia) i (by lia)
  have fit:(nx ((pc i).1.length+(pc i).2.length:Int)&&nx ((bM (bL pc) i:Int)+((pc i).1.length+(pc i).2.length:Int)))=true:=by
   rw [ie (by lia) (by lia),ie (by lia) (by lia)];rfl
  have eS:((bM (bL pc) i:Int)+((pc i).1.length+(pc i).2.length:Int))=((bM (bL pc) (i+1):Nat):Int):=by simp only [bM,bL];push_cast;rfl
  have tail:∀ h' k l po (t':Nat) js' fn',Ai js'→k (.send .none)=.pure (.again (fV it gf ac))→
    ag (KP w P) H h' [it,gf,st] [(it,cr pp (i+1:Nat)),(gf,pF w it t0 js' fn'),(st,ab #[.int (bM (bL pc) i) tk] c)] [(gen,fc gg.1.size ga tga gb tgb),(pp,ax dd xs n)]→
    wpAny (model pg w) AS.in1 (mkInt ((bM (bL pc) i:Int)+((pc i).1.length+(pc i).2.length:Int))>>=λ total=>(updateSeq st (λ _=>#[total])>>=λ _=>again (Cm gen st):Sem PySem.Fin)) (λ (fin:PySem.Fin) s'=>match fin with|.done f=>R (.ok f) s'|.again c'=>c'.quiet=true∧codeAny (model pg w) AS c' R s') (λ e s'=>R (.error e) s') ⟨h',gg.1.push (.suspended k l (fV it gf ac) po [] false),dr,t',os⟩:=by
   intro h' k l po t' js' fn' hj' hk' L'
   refine af (wpAny_mkInt ?_)
   refine af ?_
   have hS':=L'.ownAt 2 _ _ rfl
   refine wpAny_updateSeq hS' rfl (aA ⟨plainId_quiet F.plain_sum_loop _,?_⟩) (cP (by decide:1≤2000) bS) (Nat.le_succ_of_le (cP (by decide:1≤2000) bS))
   rw [eS]
   exact ih (i+1) (by lia) _ _ _ js' fn' t' (if (1:Nat)==1 then c else c+1) (.inr ⟨by lia,k,l,po,rfl,hk'⟩) (.inr ⟨by lia,hj'⟩) (L'.update (i:=2) (f:=Obj.mapSeq λ _=>#[Value.int ((bM (bL pc) (i+1):Nat):Int) t']) rfl rfl rfl)
  rcases hx with ⟨h0,rfl⟩|⟨h0,k,kl,po,rfl,hk⟩
  ·rcases hj with ⟨_,rfl⟩|⟨h1,_⟩
   ·subst h0
    refine vQ hu hxi lf lq _ L λ h' k l po tk' t' js' fn' hj' hk' L'=>?_
    exact ⟨_,_,rfl,fit,tail h' k l po t' js' fn' hj' hk' L'⟩
   ·lia
  ·rcases hj with ⟨h1,_⟩|⟨_,hj⟩
   ·lia
   ·refine zw hj hu hxi lf lq hk _ L λ h' k l po tk' t' js' fn' hj' hk' L'=>?_
    exact ⟨_,_,rfl,fit,tail h' k l po t' js' fn' hj' hk' L'⟩
end
section
variable {A:Around}{it gf st:Addr}{xs:VA}{n nq:Nat}{q:Str}{gb:Str}{k:Resume→Sem PySem.Fin}{kl:List Value}
noncomputable def yR:PySem.Expr:=match fB (ms 8 5) with
 |[.Return (some (.Call _ [g] _ _)) _]=>g
 |_=>default
noncomputable def zy (gf ac:Addr):Env:={ scope:=Cj yR,locals:=gf,globals:=3,cells:=[],qual:="_Accumulator.__str__.<locals>.<genexpr>.",func:=none,code:=.ref ac,frame:=some gf,builtins:=0 }
noncomputable abbrev fU (it gf ac:Addr):Code:=.compLoop yR 0 (.ref it) .none (zy gf ac)
noncomputable abbrev lM (it gf ac:Addr):Code:=.compStart yR 0 (.ref it) .none (zy gf ac)
theorem vA (hu:KP w P u=some (aU #[.str f tf,.str q tq] 0)) (hx:xs[0]?=some (.ref u)) (hf:f.length≤1000) (hq:q.length≤1000) (R:RP)
  (L:ag (KP w P) H hh [it,gf,st] [(it,cr pp (0:Nat)),(gf,pF w it t0 [] fn),(st,so)] [(gen,fc gg.1.size ga tga gb tgb),(pp,ax dd xs n)])
  (hR:∀ h' k l po tk' t' js fn',Ai js→k (.send .none)=.pure (.again (fU it gf ac))→ag (KP w P) H h' [it,gf,st] [(it,cr pp (1:Nat)),(gf,pF w it t0 js fn'),(st,so)] [(gen,fc gg.1.size ga tga gb tgb),(pp,ax dd xs n)]→
   R (.ok (.ret (.str (Builtin.Str.glued "" [f,q]) tk'))) ⟨h',gg.1.push (.suspended k l (fU it gf ac) po [] false),dr,t',os⟩):
  codeAny (model pg w) AG (.call (.builtin "generator.__next__") ⟨[.ref gen],[]⟩) R ⟨hh,gg.1.push (.fresh (lM it gf ac)),dr,tt,os⟩:=by
 obtain ⟨N,hN⟩:=bd hh
 obtain ⟨w,b,rfl⟩:=cB w
 obtain ⟨w,c,rfl⟩:=gE "comprehension-iter-twice" w
 cases c
 ·refine wZ (pf:=[(u,aU #[.str f tf,.str q tq] 0)]) [jY xs 0 (.ref u),rS] (λ p hp=>by rw [ci.mp hp];exact hu) (.fresh (lM it gf ac)) [aD,.a 0,aD,.k,U,U,.e,U,.e,U,.e,U,.c 0 [0,1001],U,aL,aL,aL,.e,aL,.e,U,U,.e,U,.e,U,U,aL,U,U,U,.e,U,.e,U,U,aL,U,U,U,.e,U,.e,U,U,aL,U,U,U,aK,aK,aK,aK,.k,aK,aK,.c 1 [0]] L hN λ ps=>?_
  refine fD (t:=.pure (.again (fU it gf ac))) (c:=fU it gf ac) [4,5,6] 1000 [] ⟨.ok (.ret (.str (Builtin.Str.glued "" [f,q]) ((ps 6).6 0))),[(it,cr pp 1),(gf,br w [(".0",t0,.ref it),("fws",(ps 1).4,.str f tf),("part",(ps 1).4+1,.str q tq)] (fn+2)),(st,so)],[f.length+q.length+(2:Nat) * (⟨#[]⟩:Str).length≤(10000:Nat),xs[(0:Nat)]?=some (Value.ref u)]⟩ rfl (by apply bq b;kernel_rfl) (by apply bq b;kernel_rfl) (by apply bq b;kernel_rfl) (by decide) rfl ?_ λ h' t' k l po ek L'=>?_
  ·repeat' first|exact ae|refine aa ?_ ?_
   all_goals first|exact hx|(show f.length+q.length+2 * 0≤10000;lia)
  exact hR _ _ _ _ _ _ _ _ ⟨_,_,_,_,rfl⟩ ek L'
 ·refine wZ (pf:=[(u,aU #[.str f tf,.str q tq] 0)]) [jY xs 0 (.ref u),rS] (λ p hp=>by rw [ci.mp hp];exact hu) (.fresh (lM it gf ac)) [aD,.a 0,aD,.k,.e,U,.c 0 [0,1001],U,aL,aL,aL,.e,aL,.e,U,U,.e,U,.e,U,U,aL,U,U,U,.e,U,.e,U,U,aL,U,U,U,.e,U,.e,U,U,aL,U,U,U,aK,aK,aK,aK,.k,aK,aK,.c 1 [0]] L hN λ ps=>?_
  refine fD (t:=.pure (.again (fU it gf ac))) (c:=fU it gf ac) [4,5,6] 1000 [] ⟨.ok (.ret (.str (Builtin.Str.glued "" [f,q]) ((ps 5).6 0))),[(it,cr pp 1),(gf,br w [(".0",t0,.ref it),("fws",(ps 0).4,.str f tf),("part",(ps 0).4+1,.str q tq)] (fn+2)),(st,so)],[f.length+q.length+(2:Nat) * (⟨#[]⟩:Str).length≤(10000:Nat),xs[(0:Nat)]?=some (Value.ref u)]⟩ rfl (by apply bq b;kernel_rfl) (by apply bq b;kernel_rfl) (by apply bq b;kernel_rfl) (by decide) rfl ?_ λ h' t' k l po ek L'=>?_
  ·repeat' first|exact ae|refine aa ?_ ?_
   all_goals first|exact hx|(show f.length+q.length+2 * 0≤10000;lia)
  exact hR _ _ _ _ _ _ _ _ ⟨_,_,_,_,rfl⟩ ek L'
theorem zq {js:List (Str×Tok×Value)}(hj:Ai js) (hu:KP w P u=some (aU #[.str f tf,.str q tq] 0)) (hx:xs[i]?=some (.ref u)) (hf:f.length≤1000) (hq:q.length≤1000) (hk:k (.send .none)=.pure (.again (fU it gf ac))) (R:RP)
  (L:ag (KP w P) H hh [it,gf,st] [(it,cr pp i),(gf,pF w it t0 js fn),(st,so)] [(gen,fc gg.1.size ga tga gb tgb),(pp,ax dd xs n)])
  (hR:∀ h' k l po tk' t' js fn',Ai js→k (.send .none)=.pure (.again (fU it gf ac))→ag (KP w P) H h' [it,gf,st] [(it,cr pp (i+1:Nat)),(gf,pF w it t0 js fn'),(st,so)] [(gen,fc gg.1.size ga tga gb tgb),(pp,ax dd xs n)]→
   R (.ok (.ret (.str (Builtin.Str.glued "" [f,q]) tk'))) ⟨h',gg.1.push (.suspended k l (fU it gf ac) po [] false),dr,t',os⟩):
  codeAny (model pg w) AG (.call (.builtin "generator.__next__") ⟨[.ref gen],[]⟩) R ⟨hh,gg.1.push (.suspended k kl (fU it gf ac) po [] false),dr,tt,os⟩:=by
 obtain ⟨N,hN⟩:=bd hh
 obtain ⟨t1,v1,t2,v2,rfl⟩:=hj
 obtain ⟨w,b,rfl⟩:=cB w
 rw [←gN hk]
 refine wZ (pf:=[(u,aU #[.str f tf,.str q tq] 0)]) [jY xs i (.ref u),rS] (λ p hp=>by rw [ci.mp hp];exact hu) (.suspended (jF (fU it gf ac) k) kl (fU it gf ac) po [] false) [aD,.a 0,aD,.k,.e,U,.c 0 [0,1001],U,aL,aL,aL,.e,aL,.e,U,U,.e,U,.e,U,U,aL,U,U,U,.e,U,.e,U,U,aL,U,U,U,.e,U,.e,U,U,aL,U,U,U,aK,aK,aK,aK,.k,aK,aK,.c 1 [0]] L hN λ ps=>?_
 refine fD (t:=.pure (.again (fU it gf ac))) (c:=fU it gf ac) [4,5,6] 1000 [] ⟨.ok (.ret (.str (Builtin.Str.glued "" [f,q]) ((ps 5).6 0))),[(it,i4 pp (i+1)),(gf,br w [(".0",t0,.ref it),("fws",t1,.str f tf),("part",t2,.str q tq)] fn),(st,so)],[f.length+q.length+(2:Nat) * (⟨#[]⟩:Str).length≤(10000:Nat),xs[i]?=some (Value.ref u)]⟩ rfl (by apply bq b;kernel_rfl) (by apply bq b;kernel_rfl) (by apply bq b;kernel_rfl) (by decide) rfl ?_ λ h' t' k l po ek L'=>?_
 ·repeat' first|exact ae|refine aa ?_ ?_
  all_goals first|exact hx|(show f.length+q.length+2 * 0≤10000;lia)
 exact hR _ _ _ _ _ _ _ _ ⟨_,_,_,_,rfl⟩ ek L'
theorem Aq {o:Obj}(hk:k (.send .none)=.pure (.again (fU it gf ac))) (R:RP)
  (L:ag (KP w P) H hh [it,gf,st] [(it,cr pp xs.size),(gf,o),(st,so)] [(gen,fc gg.1.size ga tga gb tgb),(pp,ax dd xs n)])
  (hR:∀ h' t' a b,ag (KP w P) H h' [it,gf,st] [(it,jW xs.size),(gf,o),(st,so),(a,eX b)] [(gen,fc gg.1.size ga tga gb tgb),(pp,ax dd xs n)]→
   R (.error (.ref a)) ⟨h',gg.1.push .finished,dr,t',os⟩):
  codeAny (model pg w) AG (.call (.builtin "generator.__next__") ⟨[.ref gen],[]⟩) R ⟨hh,gg.1.push (.suspended k kl (fU it gf ac) po [] false),dr,tt,os⟩:=by
 obtain ⟨N,hN⟩:=bd hh
 rw [←gN hk]
 refine wZ [nj xs] am (.suspended (jF (fU it gf ac) k) kl (fU it gf ac) po [] false) [aD,.a 0,aD,.k,.e,U,.c 0 [0,1001],U] L hN λ ps=>?_
 refine gy [4,5,6,0] 1000 [] ⟨.error (.ref ((ps 0).3+1)),[(it,jW xs.size),(gf,o),(st,so),((ps 0).3+1,eX ((ps 0).3))],[]⟩ rfl (by kernel_rfl) (by kernel_rfl) (by decide) rfl ae λ h' t' L'=>?_
 exact hR _ _ _ _ L'
theorem yY {o:Obj}(h0:xs.size=0) (R:RP)
  (L:ag (KP w P) H hh [it,gf,st] [(it,cr pp xs.size),(gf,o),(st,so)] [(gen,fc gg.1.size ga tga gb tgb),(pp,ax dd xs n)])
  (hR:∀ h' t' a b,ag (KP w P) H h' [it,gf,st] [(it,jW xs.size),(gf,o),(st,so),(a,eX b)] [(gen,fc gg.1.size ga tga gb tgb),(pp,ax dd xs n)]→
   R (.error (.ref a)) ⟨h',gg.1.push .finished,dr,t',os⟩):
  codeAny (model pg w) AG (.call (.builtin "generator.__next__") ⟨[.ref gen],[]⟩) R ⟨hh,gg.1.push (.fresh (lM it gf ac)),dr,tt,os⟩:=by
 obtain ⟨N,hN⟩:=bd hh
 obtain ⟨w,b,rfl⟩:=cB w
 obtain ⟨w,c,rfl⟩:=gE "comprehension-iter-twice" w
 cases c
 ·refine wZ [nj xs] am (.fresh (lM it gf ac)) [aD,.a 0,aD,.k,U,U,.e,U,.e,U,.e,U,.c 0 [0,1001],U] L hN λ ps=>?_
  refine gy [4,5,6,0] 1000 [] ⟨.error (.ref ((ps 1).3+1)),[(it,jW xs.size),(gf,o),(st,so),((ps 1).3+1,eX ((ps 1).3))],[]⟩ rfl (by apply bq b;kernel_rfl) (by apply bq b;kernel_rfl) (by decide) rfl ae λ h' t' L'=>?_
  exact hR _ _ _ _ L'
 ·refine wZ [nj xs] am (.fresh (lM it gf ac)) [aD,.a 0,aD,.k,.e,U,.c 0 [0,1001],U] L hN λ ps=>?_
  refine gy [4,5,6,0] 1000 [] ⟨.error (.ref ((ps 0).3+1)),[(it,jW xs.size),(gf,o),(st,so),((ps 0).3+1,eX ((ps 0).3))],[]⟩ rfl (by apply bq b;kernel_rfl) (by apply bq b;kernel_rfl) (by decide) rfl ae λ h' t' L'=>?_
  exact hR _ _ _ _ L'
end
section
variable {A:Around}{it gf st:Addr}{xs:VA}{n nq:Nat}{q:Str}{gb:Str}
noncomputable def gL (pc:Nat→Str×Str):List Tok→List (Str×Tok):=λ tks=>tks.mapIdx λ i t=>(Builtin.Str.glued "" [(pc i).1,(pc i).2],t)
theorem vW (pc:Nat→Str×Str) (tks:List Tok) (t:Tok):gL pc (tks++[t])=gL pc tks++[(Builtin.Str.glued "" [(pc tks.length).1,(pc tks.length).2],t)]:=by
 unfold gL;rw [List.mapIdx_append];simp
noncomputable def Eh (it gf ac:Addr) (i:Nat) (x:GenState):Prop:=(i=0∧x=.fresh (lM it gf ac))∨(0 < i∧∃ k kl po,x=.suspended k kl (fU it gf ac) po [] false∧k (.send .none)=.pure (.again (fU it gf ac)))
noncomputable abbrev Aw (gen st:Addr):Code:=.builtin "list.extend.loop" ⟨[.ref st,.ref gen,.ref st],[]⟩
theorem Bw {pc:Nat→Str×Str}(hp:aZ w P xs pc) (R:RP)
  (hR:∀ h' t' js fn' tks c,tks.length=xs.size→ag (KP w P) H h' [it,gf,st] [(it,jW xs.size),(gf,pF w it t0 js fn'),(st,ab (strValues (gL pc tks)).toArray c)] [(gen,fc gg.1.size ga tga gb tgb),(pp,ax dd xs n)]→
   R (.ok (.ret (.ref st))) ⟨h',gg.1.push .finished,dr,t',os⟩):
  ∀ kk i,i+kk=xs.size→∀ h x t js fn tks c,tks.length=i→Eh it gf ac i x→(i=0∧js=[]∨0 < i∧Ai js)→
   ag (KP w P) H h [it,gf,st] [(it,cr pp i),(gf,pF w it t0 js fn),(st,ab (strValues (gL pc tks)).toArray c)] [(gen,fc gg.1.size ga tga gb tgb),(pp,ax dd xs n)]→
   codeAny (model pg w) AS (Aw gen st) R ⟨h,gg.1.push x,dr,t,os⟩:=by
 obtain ⟨hsz,hpc⟩:=hp
 have arG:Ar AS.in1 AG:=⟨rfl,by decide,.inl rfl,.inl rfl,by decide⟩
 intro kk
 induction kk with
 |zero=>
  intro i hi h x t js fn tks c ht hx hj L
  have hin:i=xs.size:=by lia
  subst hin
  have hg:=L.oldAt 0 _ _ rfl
  refine dt F.entry_extend_loop ?_
  rw [i0 F.plain_extend_loop _]
  refine BH (jL hg rfl (aM arG ?_))
  rcases hx with ⟨h0,rfl⟩|⟨_,k,kl,po,rfl,hk⟩
  ·refine yY h0 _ L λ h' t' a b L'=>⟨⟨a,b,rfl,L'.ownAt 3 _ _ rfl⟩,rfl,?_⟩
   exact hR h' t' js fn tks c ht (L'.sub _ _ (.cons_cons _ (.cons_cons _ (.cons_cons _ (.cons _ .slnil)))) (λ p hp=>bu _ hp) (by
    have:=L'.nd
    simp only [aW,List.map_cons,List.map_nil] at this⊢
    exact this.sublist (.append (.cons_cons _ (.cons_cons _ (.cons_cons _ (.cons _ .slnil)))) (List.Sublist.refl _))) (λ a ha=>by simpa using ha))
  ·refine Aq hk _ L λ h' t' a b L'=>⟨⟨a,b,rfl,L'.ownAt 3 _ _ rfl⟩,rfl,?_⟩
   exact hR h' t' js fn tks c ht (L'.sub _ _ (.cons_cons _ (.cons_cons _ (.cons_cons _ (.cons _ .slnil)))) (λ p hp=>bu _ hp) (by
    have:=L'.nd
    simp only [aW,List.map_cons,List.map_nil] at this⊢
    exact this.sublist (.append (.cons_cons _ (.cons_cons _ (.cons_cons _ (.cons _ .slnil)))) (List.Sublist.refl _))) (λ a ha=>by simpa using ha))
 |succ kk ih=>
  intro i hi h x t js fn tks c ht hx hj L
  have hlt:i < xs.size:=by lia
  obtain ⟨lf,lq,u,tf,tq,hxi,hu⟩:=hpc i hlt
  have hg:=L.oldAt 0 _ _ rfl
  refine dt F.entry_extend_loop ?_
  rw [i0 F.plain_extend_loop _]
  refine zI (jL hg rfl (aM arG ?_))
  have szl:(strValues (gL pc tks)).toArray.size≤1000:=by simp [strValues,gL];lia
  have tail:∀ h' k l po (tk' t':Nat) js' fn',Ai js'→k (.send .none)=.pure (.again (fU it gf ac))→
    ag (KP w P) H h' [it,gf,st] [(it,cr pp (i+1:Nat)),(gf,pF w it t0 js' fn'),(st,ab (strValues (gL pc tks)).toArray c)] [(gen,fc gg.1.size ga tga gb tgb),(pp,ax dd xs n)]→
    codeAny (model pg w) AS (Aw gen st) R ⟨h'.update st (Obj.mapSeq λ ys=>ys.push (.str (Builtin.Str.glued "" [(pc i).1,(pc i).2]) tk')),gg.1.push (.suspended k l (fU it gf ac) po [] false),dr,t',os⟩:=by
   intro h' k l po tk' t' js' fn' hj' hk' L'
   have e:((strValues (gL pc tks)).toArray.push (.str (Builtin.Str.glued "" [(pc i).1,(pc i).2]) tk'))=(strValues (gL pc (tks++[tk']))).toArray:=by
    rw [vW,ht];simp [strValues]
   have L2:=L'.update (i:=2) (f:=Obj.mapSeq λ ys=>ys.push (.str (Builtin.Str.glued "" [(pc i).1,(pc i).2]) tk')) (o':=ab (strValues (gL pc (tks++[tk']))).toArray (if (((strValues (gL pc tks)).toArray.push (.str (Builtin.Str.glued "" [(pc i).1,(pc i).2]) tk')).size==(strValues (gL pc tks)).toArray.size)=true then c else c+1)) rfl (by rw [←e];rfl) rfl
   exact ih (i+1) (by lia) _ _ t' js' fn' (tks++[tk']) _ (by simp [ht]) (.inr ⟨by lia,k,l,po,rfl,hk'⟩) (.inr ⟨by lia,hj'⟩) L2
  rcases hx with ⟨h0,rfl⟩|⟨h0,k,kl,po,rfl,hk⟩
  ·rcases hj with ⟨_,rfl⟩|⟨h1,_⟩
   ·subst h0
    refine vA hu hxi lf lq _ L λ h' k l po tk' t' js' fn' hj' hk' L'=>?_
    exact ⟨_,_,_,rfl,L'.ownAt 2 _ _ rfl,szl,plainId_quiet F.plain_extend_loop _,tail h' k l po tk' t' js' fn' hj' hk' L'⟩
   ·lia
  ·rcases hj with ⟨h1,_⟩|⟨_,hj⟩
   ·lia
   ·refine zq hj hu hxi lf lq hk _ L λ h' k l po tk' t' js' fn' hj' hk' L'=>?_
    exact ⟨_,_,_,rfl,L'.ownAt 2 _ _ rfl,szl,plainId_quiet F.plain_extend_loop _,tail h' k l po tk' t' js' fn' hj' hk' L'⟩
end
section
variable {A:Around}{it gf st:Addr}{xs:VA}{n nq:Nat}{q:Str}{gb:Str}
noncomputable abbrev AK:Around:=⟨none,674,none,none,2390⟩
theorem pP {g:Array GenState}{t:Nat}{o:Obj}{Q:List Value→Shared→Prop}(hg:h.get? gen=some o) (hc:o.cls=.type "generator")
  (x:∀ h2:Heap,h2.get? h.objs.size=some (ab #[] 2)→(∀ b o,h.get? b=some o→h2.get? b=some o)→(∀ b o',b≠h.objs.size→h2.get? b=some o'→h.get? b=some o')→
   codeAny (model pg w) A (Aw gen h.objs.size) (λ r s'=>∃ items c,r=.ok (.ret (.ref h.objs.size))∧s'.heap.get? h.objs.size=some (ab items c)∧Q items.toList s') ⟨h2,g,dr,t,os⟩):
  wpAny (model pg w) A (collect (.ref gen)) Q E ⟨h,g,dr,t,os⟩:=by
 have hT:∀ {h':Heap}{t':Nat},h'.get? gen=some o→(⟨h',g,dr,t',os⟩:Shared).TypeIs (.ref gen) "generator":=λ e=>⟨_,e,hc⟩
 have hlt:=Heap.lt_size hg
 unfold collect
 refine af (wpAny_runValue (dt F.entry_proto_collect ?_))
 rw [i0 F.plain_proto_collect _]
 show wpAny _ A.in1 (newList []>>=λ l=>again (.builtin "list.__iadd__" ⟨[l,.ref gen],[]⟩)) _ _ _
 refine af (wpAny_newObj_type ?_)
 refine aA ⟨plainId_quiet F.plain_list_iadd _,dt F.entry_list_iadd ?_⟩
 rw [i0 F.plain_list_iadd _]
 have hg1:=Heap.get?_push_of_some (h:=h) (ab #[] 0) hg
 show wpAny _ A.in1 (Builtin.List.listExtendWith (.ref h.objs.size) (.ref gen) (.ref h.objs.size)) _ _ _
 unfold Builtin.List.listExtendWith
 refine af (wpAny_typeOf (hT hg1) ?_)
 have d1:Builtin.List.listSameRef (.ref h.objs.size) (.ref gen)=false:=by
  have:h.objs.size≠gen:=(Nat.ne_of_lt hlt).symm
  simp [Builtin.List.listSameRef,this]
 have d2:(Value.type "generator"==Value.type "list")=false:=by decide
 have d3:(Value.type "generator"==Value.type "tuple")=false:=by decide
 simp only [d1,d2,d3,Bool.or_false,Bool.false_eq_true,if_false]
 refine af (wpAny_pyIter_slot (hT hg1) slot_gen_iter (wpAny_call_entry slot_gen_iter (hT hg1) entry_gen_iter (by
  show wpAny _ _ (ret (.ref gen)) _ _ _
  refine aA ⟨_,rfl,"generator",_,hT hg1,slot_gen_next.lookup,?_⟩
  refine af (wpAny_holding ?_)
  unfold Builtin.List.listLengthHint
  refine af (wpAny_specialOf (hT hg1) F.gen_no_len ?_)
  show wpAny _ A.in1 (specialOf (Value.ref gen) (Str.ofString "__length_hint__")>>=_) _ _ _
  refine af (wpAny_specialOf (hT hg1) F.gen_no_hint ?_)
  refine aA ?_
  show wpAny _ A.in1 (rule "list.extend.makes-room">>=λ _=>Builtin.List.listTouch (.ref h.objs.size)>>=λ _=>again (Aw gen h.objs.size)) _ _ _
  refine af (wpAny_rule (af ?_))
  have s1:(h.push (ab #[] 0)).get? h.objs.size=some (ab #[] 0):=Heap.get?_push_size _ rfl
  show wpAny _ A.in1 (updateSeq h.objs.size (·.push .none)>>=λ _=>updateSeq h.objs.size (·.pop)) _ _ _
  refine af (wpAny_updateSeq s1 rfl ?_)
  have s2:=Heap.get?_update_self (Obj.mapSeq (·.push Value.none)) s1 rfl
  refine wpAny_updateSeq s2 rfl ?_
  have s3:=Heap.get?_update_self (Obj.mapSeq (·.pop)) s2 rfl
  refine aA ⟨plainId_quiet F.plain_extend_loop _,codeAny_mono (x _ s3 (λ b o' e=>?_) (λ b o' hb e=>?_)) λ r s' h'=>?_⟩
  ·have ne:b≠h.objs.size:=Nat.ne_of_lt (Heap.lt_size e)
   exact (Heap.get?_update_other _ _ (Ne.symm ne)).trans ((Heap.get?_update_other _ _ (Ne.symm ne)).trans (Heap.get?_push_of_some _ e))
  ·rw [Heap.get?_update_other _ _ (Ne.symm hb),Heap.get?_update_other _ _ (Ne.symm hb)] at e
   exact (Heap.get?_push_ne _ _ _ hb).symm.trans e
  ·obtain ⟨items,c,rfl,hs,hq⟩:=h'
   show wpAny _ A (load h.objs.size>>=_) _ _ s'
   exact af (wpAny_load hs (aA hq))) (args_gen_iter _)))
end
section
variable {A:Around}{it gf st:Addr}{xs:VA}{n nq:Nat}{q:Str}{gb:Str}
noncomputable def jn (pc:Nat→Str×Str) (n:Nat):List Str:=(List.range n).map λ i=>Builtin.Str.glued "" [(pc i).1,(pc i).2]
theorem pZ (pc:Nat→Str×Str) (tks:List Tok):(gL pc tks).map (·.1)=jn pc tks.length:=by
 unfold gL jn
 apply du
 ·simp
 ·intro i h1 h2;simp
theorem p4 {pc:Nat→Str×Str}{s:Str}{ts:Tok}(hp:aZ w P xs pc) (hf:JoinOk s (jn pc xs.size)=true) (R:RP)
  (L:ag (KP w P) H hh [it,gf] [(it,cr pp (0:Nat)),(gf,pF w it t0 [] fn)] [(gen,fc gg.1.size ga tga gb tgb),(pp,ax dd xs n)])
  (hR:∀ h' t' tk js fn',ag (KP w P) H h' [it,gf] [(it,jW xs.size),(gf,pF w it t0 js fn')] [(gen,fc gg.1.size ga tga gb tgb),(pp,ax dd xs n)]→
   R (.ok (.ret (.str (Builtin.Str.glued s (jn pc xs.size)) tk))) ⟨h',gg.1.push .finished,dr,t',os⟩):
  codeAny (model pg w) AK (.call (.builtin "str.join") ⟨[.str s ts,.ref gen],[]⟩) R ⟨hh,gg.1.push (.fresh (lM it gf ac)),dr,tt,os⟩:=by
 have hg:=L.oldAt 0 _ _ rfl
 have hT:(⟨hh,gg.1.push (.fresh (lM it gf ac)),dr,tt,os⟩:Shared).TypeIs (.ref gen) "generator":=⟨_,hg,rfl⟩
 refine codeAny_call_builtin F.slot_str_join.plain F.entry_str_join (F.slot_str_join.check _ _ _ _ _ _ _ _ (typeIs_str _ _ _) (F.args_str_join_2 _ _) ?_)
 rw [join_tree_other]
 refine af (wpAny_typeOf hT ?_)
 show wpAny _ _ ((pyIter (.ref gen)).tryCatch _>>=λ it=>collect it>>=λ items=>joinTail s items) _ _ _
 refine af (wpAny_tryCatch (wpAny_pyIter_slot hT slot_gen_iter (wpAny_call_entry slot_gen_iter hT entry_gen_iter (by
  show wpAny _ _ (ret (.ref gen)) _ _ _
  exact aA ⟨_,rfl,"generator",_,hT,slot_gen_next.lookup,by
   refine af (pP hg rfl λ h2 e1 e2 e3=>?_)
   have P0:gB hh h2 [] [(hh.objs.size,ab #[] 2)]:=⟨λ b o _ e=>e2 b o e,λ p hp=>by rw [ci.mp hp];exact ⟨e1,Heap.get?_none_of_le (Nat.le_refl _)⟩,by simp⟩
   have L1:=L.after0 P0
   have arS:Ar AK.in1 AS:=⟨rfl,by decide,.inl rfl,.inl rfl,by decide⟩
   refine aM arS (Bw hp _ (λ h' t' js fn' tks c htk L2=>?_) xs.size 0 (by lia) h2 _ tt [] fn [] 2 rfl (.inl ⟨rfl,rfl⟩) (.inl ⟨rfl,rfl⟩) (L1.foc [1,2,0] [1000,1001] rfl))
   refine ⟨_,c,rfl,L2.ownAt 2 _ _ rfl,?_⟩
   have fit:Builtin.Str.tooLong (((gL pc tks).map (·.1)).toArray.foldl (·+·.length+s.length) 0)=false:=by
    rw [pZ,htk]
    unfold JoinOk at hf
    simpa using hf
   have L3:=L1.bac [1,2,0] [1000,1001] L2 rfl rfl rfl
   have L4:ag (KP w P) H h' [it,gf] [(it,jW xs.size),(gf,pF w it t0 js fn')] [(gen,fc gg.1.size ga tga gb tgb),(pp,ax dd xs n)]:=
    L3.pick 1000 [1,2] [_,_] [] rfl rfl (by decide) (by simp)
   have fin:∀ tk t2,R (.ok (.ret (.str (Builtin.Str.glued s (jn pc xs.size)) tk))) ⟨h',gg.1.push .finished,dr,t2,os⟩:=λ tk t2=>hR h' t2 tk js fn' L4
   have eT:(gL pc tks).map (·.1)=jn pc xs.size:=by rw [pZ,htk]
   show wpAny _ _ (joinTail s (strValues (gL pc tks)).toArray.toList) _ _ _
   rw [List.toList_toArray]
   generalize gL pc tks=l at fit eT
   have gv:=gives_joinTail s l fit
   have len:=joinFit_length fit
   refine gv pg w _ R _ ?_
   clear gv
   match l,fit,eT,len with
   |[],fit,eT,len=>rw [eT];exact ⟨eT▸len,fin _ _⟩
   |[p],fit,eT,len=>
    have:p.1=Builtin.Str.glued s (jn pc xs.size):=by rw [←eT];rfl
    show R (.ok (.ret (.str p.1 p.2))) _
    rw [this];exact fin _ _
   |p::q::r,fit,eT,len=>rw [eT];exact ⟨eT▸len,fin _ _⟩⟩) (args_gen_iter _))))
end
section
variable {A:Around}{xs:VA}{n:Nat}{hs:Int}{tk0 tk1:Tok}
noncomputable abbrev AL:Around:=⟨none,660,none,none,2300⟩
noncomputable abbrev dk (vs:VA):Obj:=⟨.none,none,.fields vs,#[]⟩
noncomputable abbrev iV (ac:Addr):Obj:=dk #[.int 61 0,.int 19 0,.ref ac]
theorem DY {pc:Nat→Str×Str}(ho:o92=dk #[]∨∃ ac,o92=iV ac) (hp:aZ w P xs pc) (R:RP)
  (L:ag (KP w P) hh hh [92] [(92,o92)] [(pp,ax dd xs n),(dd,d8 hs tk0 0 tk1 dn)])
  (hR:∀ h' t' tk ac,ag (KP w P) hh h' [92] [(92,iV ac)] [(pp,ax dd xs n),(dd,d8 hs tk0 0 tk1 dn)]→R (.ok (.ret (.int (bM (bL pc) xs.size) tk))) ⟨h',gg.1.push .finished,dr,t',os⟩):
  codeAny (model pg w) AL (.call (.ref 97) ⟨[.ref pp],[]⟩) R ⟨hh,gg,dr,tt,os⟩:=by
 obtain ⟨N,hN⟩:=bd hh
 obtain ⟨w,b,rfl⟩:=cB w
 rcases ho with rfl|⟨ac,rfl⟩
 ·refine dv [] am [.k,U,U,.a 1,.k,.k,U,aD,.k,.k,.k,aD,.k,.k,.k,.e,aD,.k,.e,U,.k,.k,aj,fv,fv,fv,.k,.k,U,U,dR,aD,.k,.k,.k,.k,.k,.k,.e,aD,.k,.e,aD,.k,.k,.k,aD,aD,.k,bJ,.e,.e,U,U,.e,U,.e,U,.s] L hN λ ps=>?_
  refine mD AS [8,6,2,0,1,7] 1000 [] ⟨Cm (N+6) (N+7),true,none,[(92,mP 61 19 (N+4)),(N+1,cr pp 0),(N+5,br w [(".0",tt+6,.ref (N+1))] (1)),(N+7,ab #[.int 0 (tt+10)] 0),(N+6,dS (.type "generator") #[.int ((↑gg.1.size:Int)) 0,.str "<genexpr>" (tt+7),.str "_Accumulator.__len__.<locals>.<genexpr>" (tt+8)]),(N,br w [("self",tt,.ref pp)] (1))],[]⟩ rfl (by apply bq b;kernel_rfl) (by apply bq b;kernel_rfl) [.fresh (oR (N+1) (N+5) (N+4))] (by apply bq b;kernel_rfl) (by decide) rfl rfl rfl rfl rfl ae λ h' t' L' _ md=>?_
  refine tU hp _ (λ h2 t2 js fn tk c L2=>?_) xs.size 0 (by lia) h' _ t' [] _ _ _ (.inl ⟨rfl,rfl⟩) (.inl ⟨rfl,rfl⟩) (L'.foc [1,2,3] [4,1000] rfl)
  refine ma (gg:=gg.fin) R [] am rfl [] (L'.bac [1,2,3] [4,1000] L2 rfl rfl rfl) md λ ps=>?_
  refine gz [0] 1000 [] ⟨.ok (.ret (.int ((↑(bM (bL pc) xs.size):Int)) tk)),[(92,mP 61 19 (N+4))],[]⟩ rfl (by apply bq b;kernel_rfl) (by apply bq b;kernel_rfl) (by decide) rfl ae λ h3 t3 L3=>?_
  exact hR h3 t3 _ _ L3
 ·refine dv [] am [.k,U,U,.a 1,.k,.k,U,aD,.k,.k,.k,aD,.k,.k,.k,.e,aD,.k,.e,U,.k,.k,aj,.k,.k,U,U,cS,aD,.k,.k,.k,.k,.k,.k,.e,aD,.k,.e,aD,.k,.k,.k,aD,aD,.k,bJ,.e,.e,U,U,.e,U,.e,U,.s] L hN λ ps=>?_
  refine mD AS [5,3,2,0,1,4] 1000 [] ⟨Cm (N+3) (N+4),true,none,[(92,mP 61 19 ac),(N+1,cr pp 0),(N+2,br w [(".0",tt+1,.ref (N+1))] (1)),(N+4,ab #[.int 0 (tt+5)] 0),(N+3,dS (.type "generator") #[.int ((↑gg.1.size:Int)) 0,.str "<genexpr>" (tt+2),.str "_Accumulator.__len__.<locals>.<genexpr>" (tt+3)]),(N,br w [("self",tt,.ref pp)] (1))],[]⟩ rfl (by apply bq b;kernel_rfl) (by apply bq b;kernel_rfl) [.fresh (oR (N+1) (N+2) ac)] (by apply bq b;kernel_rfl) (by decide) rfl rfl rfl rfl rfl ae λ h' t' L' _ md=>?_
  refine tU hp _ (λ h2 t2 js fn tk c L2=>?_) xs.size 0 (by lia) h' _ t' [] _ _ _ (.inl ⟨rfl,rfl⟩) (.inl ⟨rfl,rfl⟩) (L'.foc [1,2,3] [4,1000] rfl)
  refine ma (gg:=gg.fin) R [] am rfl [] (L'.bac [1,2,3] [4,1000] L2 rfl rfl rfl) md λ ps=>?_
  refine gz [0] 1000 [] ⟨.ok (.ret (.int ((↑(bM (bL pc) xs.size):Int)) tk)),[(92,mP 61 19 ac)],[]⟩ rfl (by apply bq b;kernel_rfl) (by apply bq b;kernel_rfl) (by decide) rfl ae λ h3 t3 L3=>?_
  exact hR h3 t3 _ _ L3
end
noncomputable def b8 (c:Code) (i:Nat):Value:=match c with|.call _ a=>a.pos.getD i .none|_=>.none
noncomputable def mB (c:Code) (i:Nat):Addr:=mt (b8 c i)
noncomputable def jS (o:Obj):Addr:=o.dict.getD 0
noncomputable def iv (o:Obj):DictEntry:=match o.data with|.dict es _=>es.getD 0 ⟨0,.none,.none⟩|_=>⟨0,.none,.none⟩
noncomputable def bD (v:Value):Int:=match v with|.int i _=>i|_=>0
noncomputable def Dp (o:Obj) (v:Int):Obj:=d8 (iv o).hash (bE (iv o).key) v (bE (iv o).val) (mM o)
noncomputable def al (a b:Int) (o:Obj):Prop:=o=dk #[]∨∃ ac,o=dk #[.int a 0,.int b 0,.ref ac]
noncomputable def mE (w:World) (P:KF) (pc:Nat→Str×Str) (tot:Nat):Sp:=⟨660,2300,false,
 λ c fd=>match fd.length with
  |0=>match c with
   |.call v _=>match v with
    |.ref f=>match Nat.beq f 97 with
     |true=>some (0,92)
     |false=>none
    |_=>none
   |_=>none
  |1=>some (1,mB c 0)
  |2=>some (1,jS (az fd 1))
  |_=>none,
 λ c fd=>⟨.call (.ref 97) ⟨[.ref (aT fd 1)],[]⟩,[(92,az fd 0)],[(aT fd 1,ax (aT fd 2) (ad (az fd 1)) (ao (az fd 1))),(aT fd 2,Dp (az fd 2) 0)],[],
  λ z=>.ok (.ret (.int tot (z 0))),λ z=>[iV (z 1)],λ _=>[],λ _=>[],[al 61 19 (az fd 0),aZ w P (ad (az fd 1)) pc,bM (bL pc) (ad (az fd 1)).size=tot]⟩⟩
theorem gu {pc:Nat→Str×Str}:bO w (KP w P) (mE w P pc tot):=by
 rintro c fd r rfl hc ho
 refine ⟨λ _=>rfl,λ h g d t os R L hp x=>?_⟩
 have h0:al 61 19 (az fd 0):=ho _ (.head _)
 have h1:aZ w P (ad (az fd 1)) pc:=ho _ bU
 have h2:bM (bL pc) (ad (az fd 1)).size=tot:=ho _ fG
 subst h2
 refine DY h0 h1 R L λ h' t' tk ac L'=>?_
 exact x (λ k=>match k with|0=>tk|_=>ac) h' g.fin t' (λ e=>by cases e) L'
section
variable {A:Around}{xs:VA}{n:Nat}{hs:Int}{tk0 tk1:Tok}
noncomputable def fk (pc:Nat→Str×Str) (n:Nat):Str:=Builtin.Str.glued "" (jn pc n)
theorem ES {pc:Nat→Str×Str}(ho:al 64 32 o99) (hp:aZ w P xs pc) (hf:JoinOk "" (jn pc xs.size)=true) (R:RP)
  (L:ag (KP w P) hh hh [99] [(99,o99)] [(pp,ax dd xs n)])
  (hR:∀ h' t' tk ac,ag (KP w P) hh h' [99] [(99,dk #[.int 64 0,.int 32 0,.ref ac])] [(pp,ax dd xs n)]→R (.ok (.ret (.str (fk pc xs.size) tk))) ⟨h',gg.1.push .finished,dr,t',os⟩):
  codeAny (model pg w) AL (.call (.ref 104) ⟨[.ref pp],[]⟩) R ⟨hh,gg,dr,tt,os⟩:=by
 obtain ⟨N,hN⟩:=bd hh
 obtain ⟨w,b,rfl⟩:=cB w
 rcases ho with rfl|⟨ac,rfl⟩
 ·refine dv [] am [.k,U,U,.a 2,.k,U,aD,.k,.k,.k,aD,.k,.k,.k,.e,aD,.k,.e,U,.k,.k,aj,fv,fv,fv,.k,.k,U,U,.s] L hN λ ps=>?_
  refine lW AK [7,5,1,0,6] 1000 [] ⟨.call (.builtin "str.join") ⟨[.str "" 234,.ref (N+6)],[]⟩,true,none,[(99,mP 64 32 (N+4)),(N+1,cr pp 0),(N+5,br w [(".0",tt+6,.ref (N+1))] (1)),(N+6,dS (.type "generator") #[.int ((↑gg.1.size:Int)) 0,.str "<genexpr>" (tt+7),.str "_Accumulator.__str__.<locals>.<genexpr>" (tt+8)]),(N,br w [("self",tt,.ref pp)] (1))],[]⟩ rfl (by apply bq b;kernel_rfl) (by apply bq b;kernel_rfl) [.fresh (lM (N+1) (N+5) (N+4))] (by apply bq b;kernel_rfl) (by decide) rfl rfl rfl rfl rfl ae λ h' t' L' _ md=>?_
  refine p4 hp hf _ (L'.foc [1,2] [3,1000] rfl) λ h2 t2 tk js fn L2=>?_
  refine ma (gg:=gg.fin) R [] am rfl [] (L'.bac [1,2] [3,1000] L2 rfl rfl rfl) md λ ps=>?_
  refine gz [0] 1000 [] ⟨.ok (.ret (.str (Builtin.Str.glued (Str.ofString "") (jn pc xs.size)) tk)),[(99,mP 64 32 (N+4))],[]⟩ rfl (by apply bq b;kernel_rfl) (by apply bq b;kernel_rfl) (by decide) rfl ae λ h3 t3 L3=>?_
  exact hR h3 t3 _ _ L3
 ·refine dv [] am [.k,U,U,.a 2,.k,U,aD,.k,.k,.k,aD,.k,.k,.k,.e,aD,.k,.e,U,.k,.k,aj,.k,.k,U,U,.s] L hN λ ps=>?_
  refine lW AK [4,2,1,0,3] 1000 [] ⟨.call (.builtin "str.join") ⟨[.str "" 234,.ref (N+3)],[]⟩,true,none,[(99,mP 64 32 ac),(N+1,cr pp 0),(N+2,br w [(".0",tt+1,.ref (N+1))] (1)),(N+3,dS (.type "generator") #[.int ((↑gg.1.size:Int)) 0,.str "<genexpr>" (tt+2),.str "_Accumulator.__str__.<locals>.<genexpr>" (tt+3)]),(N,br w [("self",tt,.ref pp)] (1))],[]⟩ rfl (by apply bq b;kernel_rfl) (by apply bq b;kernel_rfl) [.fresh (lM (N+1) (N+2) ac)] (by apply bq b;kernel_rfl) (by decide) rfl rfl rfl rfl rfl ae λ h' t' L' _ md=>?_
  refine p4 hp hf _ (L'.foc [1,2] [3,1000] rfl) λ h2 t2 tk js fn L2=>?_
  refine ma (gg:=gg.fin) R [] am rfl [] (L'.bac [1,2] [3,1000] L2 rfl rfl rfl) md λ ps=>?_
  refine gz [0] 1000 [] ⟨.ok (.ret (.str (Builtin.Str.glued (Str.ofString "") (jn pc xs.size)) tk)),[(99,mP 64 32 ac)],[]⟩ rfl (by apply bq b;kernel_rfl) (by apply bq b;kernel_rfl) (by decide) rfl ae λ h3 t3 L3=>?_
  exact hR h3 t3 _ _ L3
end
section
variable {A:Around}{xs:VA}{n:Nat}{hs:Int}{tk0 tk1:Tok}
noncomputable def fr (w:World) (l:List Addr):Frag:=l.filterMap λ a=>((K0 w) a).map λ o=>(a,o)
theorem FW (X:(K0 w).In h) (l:List Addr):(fr w l).In h:=by
 intro a o e
 refine X a o ?_
 unfold fr at e
 induction l with
 |nil=>cases e
 |cons b l ih=>
  cases hb:K0 w b with
  |none=>simp only [List.filterMap_cons,hb,Option.map_none] at e;exact ih e
  |some o'=>
   simp only [List.filterMap_cons,hb,Option.map_some,List.lookup_cons] at e
   by_cases hab:a=b
   ·subst hab;simp at e;rw [hb,e]
   ·rw [show (a==b)=false from by simpa using hab] at e;exact ih e
noncomputable abbrev F1 (w:World):Frag:=fr w (List.range 160)
theorem H6 (w:World):findIn (F1 w) (.ref 130) "__str__"=some (some (.ref 104)):=by kernel_rfl
theorem HE (w:World):isFn (F1 w) (.ref 104)=true:=by kernel_rfl
theorem ag.backOld {F:List Addr}{own old:aq}(L:ag K H h F own old) (hp:H.get? p.1=some p.2) (nF:p.1∉F) (nk:K p.1=none) (nd:((own++p::old).map (·.1)).Nodup):ag K H h F own (p::old):=
 ⟨L.keep,L.hown,λ q hq=>by
  rcases bI.mp hq with rfl|hq
  ·exact L.keep _ _ nF hp
  ·exact L.hold q hq,nd,L.foot,L.kin,L.off,λ q hq=>by
  rcases bI.mp hq with rfl|hq
  ·exact nk
  ·exact L.offo q hq⟩
theorem zf {pc:Nat→Str×Str}(ho:al 64 32 o99) (hp:aZ w P xs pc) (hf:JoinOk "" (jn pc xs.size)=true) (R:RP)
  (L:ag (KP w P) hh hh [99] [(99,o99)] [(pp,ax dd xs n),(dd,d8 hs tk0 0 tk1 dn)])
  (hR:∀ h' t' tk ac,ag (KP w P) hh h' [99] [(99,dk #[.int 64 0,.int 32 0,.ref ac])] [(pp,ax dd xs n),(dd,d8 hs tk0 0 tk1 dn)]→R (.ok (.ret (.str (fk pc xs.size) tk))) ⟨h',gg.1.push .finished,dr,t',os⟩):
  codeAny (model pg w) ⟨none,655,none,none,2290⟩ (.builtin "str.__new__" ⟨[.type "str",.ref pp],[]⟩) R ⟨hh,gg,dr,tt,os⟩:=by
 have hd:hh.get? dd=some (d8 hs tk0 0 tk1 dn):=L.hold _ bU
 have hpp:hh.get? pp=some (ax dd xs n):=L.hold _ (.head _)
 have nd:=L.nd
 refine o6 (by decide) (FW (mx L.kin) (List.range 160)) (C:=130) (ox:=ax dd xs n) (od:=some (d8 hs tk0 0 tk1 dn)) ⟨hpp,rfl,rfl,hd⟩ (H6 w) (HE w) ?_
 refine aM (A₀:=AL) (fZ (by decide) rfl rfl rfl) ?_
 have L1:ag (KP w P) hh hh [99] [(99,o99)] [(pp,ax dd xs n)]:=L.sub _ _ (List.Sublist.refl _) (by simp) (by simp at nd⊢;exact nd.1.1) L.foot
 refine ES ho hp hf _ L1 λ h' t' tk ac L'=>⟨_,_,rfl,hR h' t' tk ac ?_⟩
 have L2:=L'.backOld (p:=(dd,d8 hs tk0 0 tk1 dn)) hd (by simp at nd⊢;exact λ e=>nd.1.2 e.symm) (L.offo _ bU) (by simp at nd⊢;exact ⟨⟨nd.1.2,nd.1.1⟩,λ e=>nd.2 e.symm⟩)
 exact L2.sub _ _ (List.Sublist.refl _) (by simp) nd L'.foot
noncomputable def xu (c:Code):Option Addr:=match c with
 |.builtin id a=>match Nat.beq (a.pos.length) 2 with
  |true=>match (a.pos.getD 1 .none) with
   |.ref p=>if id="str.__new__" then some p else none
   |_=>none
  |false=>none
 |_=>none
noncomputable def uh (w:World) (P:KF) (pc:Nat→Str×Str) (txt:Str):Sp:=⟨655,2290,false,
 λ c fd=>match fd.length with
  |0=>match xu c with
   |some _=>some (0,99)
   |none=>none
  |1=>match xu c with
   |some p=>some (1,p)
   |none=>none
  |2=>some (1,jS (az fd 1))
  |_=>none,
 λ c fd=>⟨.builtin "str.__new__" ⟨[.type "str",.ref (aT fd 1)],[]⟩,[(99,az fd 0)],[(aT fd 1,ax (aT fd 2) (ad (az fd 1)) (ao (az fd 1))),(aT fd 2,Dp (az fd 2) 0)],[],
  λ z=>.ok (.ret (.str txt (z 0))),λ z=>[dk #[.int 64 0,.int 32 0,.ref (z 1)]],λ _=>[],λ _=>[],[al 64 32 (az fd 0),aZ w P (ad (az fd 1)) pc,JoinOk "" (jn pc (ad (az fd 1)).size)=true,fk pc (ad (az fd 1)).size=txt]⟩⟩
theorem mm {pc:Nat→Str×Str}:bO w (KP w P) (uh w P pc txt):=by
 rintro c fd r rfl hc ho
 refine ⟨λ _=>rfl,λ h g d t os R L hp x=>?_⟩
 have h0:al 64 32 (az fd 0):=ho _ (.head _)
 have h1:aZ w P (ad (az fd 1)) pc:=ho _ bU
 have h2:JoinOk "" (jn pc (ad (az fd 1)).size)=true:=ho _ fG
 have h3:fk pc (ad (az fd 1)).size=txt:=ho _ jX
 subst h3
 refine zf h0 h1 h2 R L λ h' t' tk ac L'=>?_
 exact x (λ k=>match k with|0=>tk|_=>ac) h' g.fin t' (λ e=>by cases e) L'
end
section
variable {A:Around}{xs:VA}{n:Nat}{hs:Int}{tk0 tk1:Tok}
noncomputable abbrev AO:Around:=⟨none,640,none,none,2200⟩
noncomputable def fO (x:Str):Bool:=decide (x.length > 0)&&x.cps.all Unicode.isSpace
noncomputable def xQ (txt:Str) (b:Bool):dQ w P:=⟨sk "str.isspace" λ as=>match as with
  |[p]=>match p with
   |.str x _=>some ⟨.v (.bool b),[.v (.str x 0) (.str txt 0)],[fO txt=b]⟩
   |_=>none
  |_=>none,
 eA w P (F.slot_str_isspace).plain F.entry_str_isspace _ λ as r h hq hp=>by
  split at h
  ·split at h
   ·rename_i x t
    cases h
    have e1:x=txt:=(Value.str.inj (hq _ (.head _))).1
    have h1:fO txt=b:=hp _ (.head _)
    subst e1 h1
    exact gives_str_isspace x t
   ·cases h
  ·cases h⟩
theorem xP {pc:Nat→Str×Str}(ho:al 61 19 o92) (hs9:al 64 32 o99) (hp:aZ w P xs pc) (hf:JoinOk "" (jn pc xs.size)=true) (ht:bM (bL pc) xs.size=tot) (h6:tot < 6) (hx:fk pc xs.size=txt) (b:Bool) (hb:fO txt=b) (R:RP)
  (L:ag (KP w P) hh hh [92,99] [(92,o92),(99,o99)] [(pp,ax dd xs n),(dd,d8 hs tk0 0 tk1 dn)])
  (hR:∀ h' (g':BG) t' ac (o99':Obj),al 64 32 o99'→ag (KP w P) hh h' [92,99] [(92,iV ac),(99,o99')] [(pp,ax dd xs n),(dd,d8 hs tk0 0 tk1 dn)]→R (.ok (.ret (.bool (Nat.beq tot 0||b)))) ⟨h',g',dr,t',os⟩):
  codeAny (model pg w) AO (.call (.ref 119) ⟨[.ref pp],[]⟩) R ⟨hh,gg,dr,tt,os⟩:=by
 obtain ⟨N,hN⟩:=bd hh
 obtain ⟨w,c,rfl⟩:=cB w
 by_cases h0:tot=0
 ·obtain rfl:=h0.symm
  refine dv [c0 (mE _ P pc 0) gu,c0 (uh _ P pc txt) mm,xQ txt b] am [.k,U,U,.e,U,aD,.k,.k,.k,.k,.k,.k,.e,aD,.k,.e,aD,.k,.k,.k,aD,aD,.k,bJ,.e,.e,U,aD,.k,.k,.k,aD,.k,.k,.k,.e,aD,.k,.k,.k,.k,.c 0 [1,1000,1001]] L hN λ ps=>?_
  refine eN [1,2] 1000 [] ⟨.ok (.ret (.bool (Nat.beq 0 0||b))),[(92,mP 61 19 ((ps 0).6 1)),(99,o99)],[al (61:Int) (19:Int) o92,aZ (w.withFollow "special-get-raises" c) P xs pc,bM (bL pc) xs.size=0]⟩ rfl (by apply CQ c b;kernel_rfl) (by decide) rfl (aa ho (aa hp (aa ht ae))) λ h3 g3 t3 L3=>?_
  exact hR h3 g3 t3 _ _ hs9 L3
 ·refine dv [c0 (mE _ P pc tot) gu,c0 (uh _ P pc txt) mm,xQ txt b] am [.k,U,U,.e,U,aD,.k,.k,.k,.k,.k,.k,.e,aD,.k,.e,aD,.k,.k,.k,aD,aD,.k,bJ,.e,.e,U,aD,.k,.k,.k,aD,.k,.k,.k,.e,aD,.k,.k,.k,.k,.c 0 [1,1000,1001],.k,.k,U,.e,.e,.e,.c 1 [2,1000,1001],.e,.e,.e,.c 2 []] L hN λ ps=>?_
  refine eN [1,2] 1000 [] ⟨.ok (.ret (.bool (Nat.beq tot 0||b))),[(92,mP 61 19 ((ps 0).6 1)),(99,mP 64 32 ((ps 1).6 1))],[fO txt=b,al (64:Int) (32:Int) o99,aZ (w.withFollow "special-get-raises" c) P xs pc,JoinOk (Str.ofString "") (jn pc xs.size)=true,fk pc xs.size=txt,al (61:Int) (19:Int) o92,aZ (w.withFollow "special-get-raises" c) P xs pc,bM (bL pc) xs.size=tot]⟩ rfl (by apply IZ 5 h0 h6 c b;kernel_rfl) (by decide) rfl ?_ λ h3 g3 t3 L3=>?_
  ·exact aa hb (aa hs9 (aa hp (aa hf (aa hx (aa ho (aa hp (aa ht ae)))))))
  exact hR h3 g3 t3 _ _ (.inr ⟨_,rfl⟩) L3
end
noncomputable def dz (i j:Nat) (k:Nat) (a:Nat):Obj:=match k with
 |0=>dk #[]
 |_=>dk #[.int i 0,.int j 0,.ref a]
theorem gW (i j k a:Nat):al i j (dz i j k a):=by
 induction k with
 |zero=>exact .inl rfl
 |succ k=>exact .inr ⟨a,rfl⟩
theorem li {o:Obj}(h:al i j o):∃ k a,o=dz i j k a:=by
 rcases h with rfl|⟨a,rfl⟩
 ·exact ⟨0,0,rfl⟩
 ·exact ⟨1,a,rfl⟩
noncomputable abbrev Q3:=Nat×Nat×Nat
noncomputable abbrev kM:=Nat→Q3→VA→VA
noncomputable abbrev kJ:=Nat→Q3→aq
noncomputable abbrev nF:kJ:=λ _ _=>[]
noncomputable def cn (em:kM) (qs:List Q3):VA:=qs.zipIdx.foldl (λ ys p=>em p.2 p.1 ys) #[]
noncomputable def ec (fm:kJ) (qs:List Q3):aq:=(qs.mapIdx fm).reverse.flatten
theorem fN (em:kM) (qs:List Q3) (q:Q3):cn em (qs++[q])=em qs.length q (cn em qs):=by
 unfold cn
 rw [List.zipIdx_append,List.foldl_append]
 simp
theorem pk (fm:kJ) (qs:List Q3) (q:Q3):ec fm (qs++[q])=fm qs.length q++ec fm qs:=by
 unfold ec
 rw [List.mapIdx_append]
 simp
theorem lB {em:kM}(hem:∀ i q ys,(em i q ys).size≤ys.size+1):∀ (qs:List Q3),(cn em qs).size≤qs.length:=by
 have z:∀ (n:Nat) (qs:List Q3),qs.length=n→(cn em qs).size≤qs.length:=by
  intro n
  induction n with
  |zero=>intro qs h;rw [List.length_eq_zero_iff.mp h];exact Nat.le_refl _
  |succ n ih=>
   intro qs h
   have hne:qs≠[]:=λ e=>by rw [e] at h;cases h
   have hl:qs.dropLast.length=n:=by rw [List.length_dropLast,h];rfl
   rw [←List.dropLast_concat_getLast hne,fN]
   have h1:=hem qs.dropLast.length (qs.getLast hne) (cn em qs.dropLast)
   have h2:=ih _ hl
   simp only [List.length_append,List.length_singleton]
   lia
 exact λ qs=>z _ qs rfl
noncomputable abbrev ca (val:Nat→Q3→Value):kM:=λ i q ys=>ys.push (val i q)
theorem nK (val:Nat→Q3→Value) (qs:List Q3):cn (ca val) qs=(qs.mapIdx val).toArray:=by
 have z:∀ (n:Nat) (qs:List Q3),qs.length=n→cn (ca val) qs=(qs.mapIdx val).toArray:=by
  intro n
  induction n with
  |zero=>intro qs h;rw [List.length_eq_zero_iff.mp h];rfl
  |succ n ih=>
   intro qs h
   have hne:qs≠[]:=λ e=>by rw [e] at h;cases h
   have hl:qs.dropLast.length=n:=by rw [List.length_dropLast,h];rfl
   rw [←List.dropLast_concat_getLast hne,fN,List.mapIdx_append,ih _ hl]
   simp
 exact z _ qs rfl
noncomputable abbrev kU (b:Nat→Bool):kM:=λ i q ys=>match b i with|true=>ys.push (.int (i:Int) q.1)|false=>ys
theorem ag.permOld {F:List Addr}{own old old':aq}(L:ag K H h F own old) (p:old.Perm old'):ag K H h F own old':=
 ⟨L.keep,L.hown,λ q hq=>L.hold q (p.mem_iff.mpr hq),((p.append_left own).map _).nodup_iff.mp L.nd,L.foot,L.kin,L.off,λ q hq=>L.offo q (p.mem_iff.mpr hq)⟩
section
variable {A:Around}{elt iter:PySem.Expr}{ifs:List PySem.Expr}{sc:Scope}{pos:Pos}{it ls:Addr}{acc:Value}{F:List Addr}{own old:aq}
noncomputable def A4 (w:World) (P:KF) (old:aq) (ls:Addr) (o:Obj) (xs:VA):Prop:=(ls,jG o xs)∈old∨KP w P ls=some (jG o xs)
theorem oI {o:Obj}{xs:VA}(R:RP) (hk:KP w P ls=some (jG o xs)) (L:ag (KP w P) H hh F ((it,cr ls xs.size)::own) old)
  (hR:∀ h' (g':BG) t',ag (KP w P) H h' F ((it,jW xs.size)::own) old→R (.ok .next) ⟨h',g',dr,t',os⟩):
  codeAny (model pg w) AE (.compLoop (lc elt target iter ifs sc pos) 0 (.ref it) acc env) R ⟨hh,gg,dr,tt,os⟩:=by
 obtain ⟨N,hN⟩:=bd hh
 refine dv (pf:=[(ls,jG o xs)]) [yb xs] (λ p hp=>by rw [ci.mp hp];exact hk) [U,.e,U,.c 0 [0,2000],U] L hN λ ps=>?_
 refine iP [2] 3 own ⟨.ok .next,[(it,jW xs.size)],[]⟩ rfl (by kernel_rfl) (by decide) L.foot ae λ h' g' t' L'=>?_
 exact hR _ _ _ L'
theorem jw {o:Obj}{xs:VA}(R:RP) (hk:A4 w P old ls o xs) (L:ag (KP w P) H hh F ((it,cr ls xs.size)::own) old)
  (hR:∀ h' (g':BG) t',ag (KP w P) H h' F ((it,jW xs.size)::own) old→R (.ok .next) ⟨h',g',dr,t',os⟩):
  codeAny (model pg w) AE (.compLoop (lc elt target iter ifs sc pos) 0 (.ref it) acc env) R ⟨hh,gg,dr,tt,os⟩:=by
 rcases hk with hk|hk
 ·obtain ⟨s,t,rfl⟩:=List.append_of_mem hk
  exact pa R (L.permOld List.perm_middle) λ h' g' t' L'=>hR _ _ _ (L'.permOld List.perm_middle.symm)
 ·exact oI R hk L hR
theorem pY {A:Around}(hA:Ar A AE) {x:Str}{n:Nat}{it acc gf:Addr}{old:aq}{F:List Addr}(Ex:aq→Prop) (em:kM) (fm:kJ) (hex:Ex ex0) (hem:∀ i q ys,(em i q ys).size≤ys.size+1) (he:e=iU e)
  (L:ag (KP w P) H hh F ([(it,c8 ((0:Nat):Int) ((n:Int) - ((0:Nat):Int)) 1),(acc,ab #[] an),(gf,aJ w [] fn)]++ex0) old)
  (iX:∀ i,i < n→∀ ys ex nw an fn js h (g:BG) t,Ex ex→ys.size≤i→Js x js→ag (KP w P) H h F ([(it,c8 i ((n:Int) - i) 1),(acc,ab ys an),(gf,aJ w js fn)]++(ex++nw)) old→
   (∀ h' (g':BG) t' q an' fn' tj uj ex',Ex ex'→ag (KP w P) H h' F ([(it,c8 (i+1:Nat) ((n:Int) - (i+1:Nat)) 1),(acc,ab (em i q ys) an'),(gf,aJ w [en x tj (.int i uj)] fn')]++(ex'++(fm i q++nw))) old→
    codeAny (model pg w) A (.compLoop e 0 (.ref it) (.ref acc) env) R ⟨h',g',dr,t',os⟩)→codeAny (model pg w) A (.compLoop e 0 (.ref it) (.ref acc) env) R ⟨h,g,dr,t,os⟩)
  (fin:∀ h' (g':BG) t' qs ex an fn js u,qs.length=n→Ex ex→yv x n (λ k=>.int k u) js→ag (KP w P) H h' F ([(it,c8 n ((n:Int) - n) 1),(acc,ab (cn em qs) an),(gf,aJ w js fn)]++(ex++ec fm qs)) old→R (.ok .next) ⟨h',g',dr,t',os⟩):
  codeAny (model pg w) A (.compStart e 0 (.ref it) (.ref acc) env) R ⟨hh,gg,dr,tt,os⟩:=by
 have main:∀ k i,i+k=n→∀ qs ex an fn js u h (g:BG) t,qs.length=i→Ex ex→yv x i (λ k=>.int k u) js→ag (KP w P) H h F ([(it,c8 i ((n:Int) - i) 1),(acc,ab (cn em qs) an),(gf,aJ w js fn)]++(ex++ec fm qs)) old→
   codeAny (model pg w) A (.compLoop e 0 (.ref it) (.ref acc) env) R ⟨h,g,dr,t,os⟩:=by
  intro k
  induction k with
  |zero=>
   intro i hi qs ex an fn js u h g t hq hx hj L
   have:i=n:=by lia
   obtain rfl:=this.symm
   rw [he]
   exact aM hA (jO R L λ h' g' t' L'=>fin h' g' t' qs ex an fn js u hq hx hj L')
  |succ k ih=>
   intro i hi qs ex an fn js u h g t hq hx hj L
   obtain rfl:=hq.symm
   exact iX qs.length (by lia) _ ex _ an fn js h g t hx (lB hem qs) hj.js L λ h' g' t' q an' fn' tj uj ex' hx' L'=>by
    rw [←fN em qs q,←pk fm qs q] at L'
    exact ih (qs.length+1) (by lia) (qs++[q]) ex' an' fn' _ uj h' g' t' (by simp) hx' (.inr ⟨by lia,tj,rfl⟩) L'
 rw [he]
 refine iu R (L.ownAt 0 _ _ rfl) ?_
 show codeAny _ _ (.compLoop (iU e) 0 _ _ env) _ _
 rw [←he]
 have L0:ag (KP w P) H hh F ([(it,c8 ((0:Nat):Int) ((n:Int) - ((0:Nat):Int)) 1),(acc,ab (cn em []) an),(gf,aJ w [] fn)]++(ex0++ec fm [])) old:=by
  have e1:ec fm []=[]:=rfl
  rw [e1,aX];exact L
 exact main n 0 (by lia) [] ex0 an fn [] 0 hh gg tt rfl hex (.inl ⟨rfl,rfl⟩) L0
theorem sD {A:Around}(hA:Ar A AE) {x:Str}{xs:VA}{o:Obj}{it acc gf ls:Addr}{old:aq}{F:List Addr}(Ex:aq→Prop) (em:kM) (fm:kJ) (hex:Ex ex0) (hem:∀ i q ys,(em i q ys).size≤ys.size+1) (he:e=iU e) (hk:A4 w P old ls o xs)
  (L:ag (KP w P) H hh F ([(it,cr ls ((0:Nat):Int)),(acc,ab #[] an),(gf,aJ w [] fn)]++ex0) old)
  (iX:∀ (i:Nat) v,xs[i]?=some v→∀ ys ex nw an fn js h (g:BG) t,Ex ex→ys.size≤i→Js x js→ag (KP w P) H h F ([(it,cr ls i),(acc,ab ys an),(gf,aJ w js fn)]++(ex++nw)) old→
   (∀ h' (g':BG) t' q an' fn' tj ex',Ex ex'→ag (KP w P) H h' F ([(it,cr ls (i+1:Nat)),(acc,ab (em i q ys) an'),(gf,aJ w [en x tj v] fn')]++(ex'++(fm i q++nw))) old→
    codeAny (model pg w) A (.compLoop e 0 (.ref it) (.ref acc) env) R ⟨h',g',dr,t',os⟩)→codeAny (model pg w) A (.compLoop e 0 (.ref it) (.ref acc) env) R ⟨h,g,dr,t,os⟩)
  (fin:∀ h' (g':BG) t' qs ex an fn js,qs.length=xs.size→Ex ex→yv x xs.size (λ k=>xs.getD k .none) js→ag (KP w P) H h' F ([(it,jW xs.size),(acc,ab (cn em qs) an),(gf,aJ w js fn)]++(ex++ec fm qs)) old→R (.ok .next) ⟨h',g',dr,t',os⟩):
  codeAny (model pg w) A (.compStart e 0 (.ref it) (.ref acc) env) R ⟨hh,gg,dr,tt,os⟩:=by
 have main:∀ k i,i+k=xs.size→∀ qs ex an fn js h (g:BG) t,qs.length=i→Ex ex→yv x i (λ k=>xs.getD k .none) js→ag (KP w P) H h F ([(it,cr ls i),(acc,ab (cn em qs) an),(gf,aJ w js fn)]++(ex++ec fm qs)) old→
   codeAny (model pg w) A (.compLoop e 0 (.ref it) (.ref acc) env) R ⟨h,g,dr,t,os⟩:=by
  intro k
  induction k with
  |zero=>
   intro i hi qs ex an fn js h g t hq hx hj L
   have:i=xs.size:=by lia
   obtain rfl:=this.symm
   rw [he]
   exact aM hA (jw R hk L λ h' g' t' L'=>fin h' g' t' qs ex an fn js hq hx hj L')
  |succ k ih=>
   intro i hi qs ex an fn js h g t hq hx hj L
   obtain rfl:=hq.symm
   exact iX qs.length xs[qs.length] (by simp) _ ex _ an fn js h g t hx (lB hem qs) hj.js L λ h' g' t' q an' fn' tj ex' hx' L'=>by
    rw [←fN em qs q,←pk fm qs q] at L'
    exact ih (qs.length+1) (by lia) (qs++[q]) ex' an' fn' _ h' g' t' (by simp) hx' (.inr ⟨by lia,tj,by simp [Array.getD,show qs.length < xs.size by lia]⟩) L'
 rw [he]
 refine i3 R (i:=0) (L.ownAt 0 _ _ rfl) ?_
 show codeAny _ _ (.compLoop (iU e) 0 _ _ env) _ _
 rw [←he]
 have L0:ag (KP w P) H hh F ([(it,cr ls ((0:Nat):Int)),(acc,ab (cn em []) an),(gf,aJ w [] fn)]++(ex0++ec fm [])) old:=by
  have e1:ec fm []=[]:=rfl
  rw [e1,aX];exact L
 exact main xs.size 0 (by lia) [] ex0 an fn [] hh gg tt rfl hex (.inl ⟨rfl,rfl⟩) L0
end
section
variable {A:Around}{xs:VA}{n:Nat}{hs:Int}{tk0 tk1:Tok}
noncomputable abbrev AF:Around:=⟨none,620,none,none,2100⟩
theorem B0 {pc:Nat→Str×Str}(ho:al 61 19 o92) (hp:aZ w P xs pc) (ht:bM (bL pc) xs.size=tot) (h6:tot < 6) (R:RP)
  (L:ag (KP w P) hh hh [92] [(92,o92)] [(pp,ax dd xs n),(dd,d8 hs tk0 0 tk1 dn)])
  (hR:∀ h' (g':BG) t' ac,ag (KP w P) hh h' [92] [(92,iV ac)] [(pp,ax dd xs n),(dd,d8 hs tk0 0 tk1 dn)]→R (.ok (.ret (.bool (Nat.blt 0 tot)))) ⟨h',g',dr,t',os⟩):
  codeAny (model pg w) AF (.call (.ref 28) ⟨[.ref pp],[]⟩) R ⟨hh,gg,dr,tt,os⟩:=by
 obtain ⟨N,hN⟩:=bd hh
 obtain ⟨w,c,rfl⟩:=cB w
 refine dv [c0 (mE _ P pc tot) gu] am [.k,U,U,.e,U,aD,.k,.k,.k,aD,.k,.k,.k,.e,aD,.k,.k,.k,.k,.c 0 [1,1000,1001]] L hN λ ps=>?_
 refine eN [1] 1000 [] ⟨.ok (.ret (.bool (Nat.blt 0 tot))),[(92,mP 61 19 ((ps 0).6 1))],[al (61:Int) (19:Int) o92,aZ (w.withFollow "special-get-raises" c) P xs pc,bM (bL pc) xs.size=tot]⟩ rfl (by apply G9 6 h6 c;kernel_rfl) (by decide) rfl (aa ho (aa hp (aa ht ae))) λ h3 g3 t3 L3=>?_
 exact hR h3 g3 t3 _ L3
end
section
variable {A:Around}{xs:VA}{n:Nat}{hs:Int}{tk0 tk1:Tok}
theorem Gu {pc:Nat→Str×Str}(ho:al 61 19 o92) (hp:aZ w P xs pc) (ht:bM (bL pc) xs.size=tot) (h6:tot < 6) (R:RP)
  (L:ag (KP w P) hh hh [92] [(92,o92)] [(pp,ax dd xs n),(dd,d8 hs tk0 0 tk1 dn)])
  (hR:∀ h' (g':BG) t' ac (tk:Tok),ag (KP w P) hh h' [92] [(92,iV ac)] [(pp,ax dd xs n),(dd,d8 hs tk0 0 tk1 dn)]→R (.ok (.ret (.bool (Nat.beq tot 0)))) ⟨h',g',dr,t',os⟩):
  codeAny (model pg w) AF (.call (.ref 21) ⟨[.ref pp],[]⟩) R ⟨hh,gg,dr,tt,os⟩:=by
 obtain ⟨N,hN⟩:=bd hh
 obtain ⟨w,c,rfl⟩:=cB w
 refine dv [c0 (mE _ P pc tot) gu] am [.k,U,U,.e,U,aD,.k,.k,.k,aD,.k,.k,.k,.e,aD,.k,.k,.k,.k,.c 0 [1,1000,1001]] L hN λ ps=>?_
 refine eN [1] 1000 [] ⟨.ok (.ret (.bool (Nat.beq tot 0))),[(92,mP 61 19 ((ps 0).6 1))],[al (61:Int) (19:Int) o92,aZ (w.withFollow "special-get-raises" c) P xs pc,bM (bL pc) xs.size=tot]⟩ rfl (by apply G9 6 h6 c;kernel_rfl) (by decide) rfl (aa ho (aa hp (aa ht ae))) λ h3 g3 t3 L3=>?_
 exact hR h3 g3 t3 _ 0 L3
end
section
variable {A:Around}{xs:VA}{n:Nat}{hs:Int}{tk0 tk1:Tok}
theorem Dz {v:Int}{pc:Nat→Str×Str}(ho:al 61 19 o92) (hp:aZ w P xs pc) (ht:bM (bL pc) xs.size=tot) (h6:tot < 6) (R:RP)
  (L:ag (KP w P) hh hh [92] [(92,o92)] [(pp,ax dd xs n),(dd,d8 hs tk0 0 tk1 dn)])
  (hR:∀ h' (g':BG) t' ac (tk:Tok),ag (KP w P) hh h' [92] [(92,iV ac)] [(pp,ax dd xs n),(dd,d8 hs tk0 0 tk1 dn)]→R (.ok (.ret (.int tot tk))) ⟨h',g',dr,t',os⟩):
  codeAny (model pg w) AF (.call (.ref 50) ⟨[.ref pp,.int v vt],[]⟩) R ⟨hh,gg,dr,tt,os⟩:=by
 obtain ⟨N,hN⟩:=bd hh
 obtain ⟨w,c,rfl⟩:=cB w
 refine dv [c0 (mE _ P pc tot) gu] am [.k,.k,U,U,U,U,.e,.k,.k,U,.k,.k,.e,.e,.e,.k,.k,U,.e,.e,aD,.k,.k,.k,.k,.c 0 [1,1000,1001]] L hN λ ps=>?_
 refine eN [1] 1000 [] ⟨.ok (.ret (.int tot ((ps 0).4))),[(92,mP 61 19 ((ps 0).6 1))],[al (61:Int) (19:Int) o92,aZ (w.withFollow "special-get-raises" c) P xs pc,bM (bL pc) xs.size=tot]⟩ rfl (by apply G9 6 h6 c;kernel_rfl) (by decide) rfl (aa ho (aa hp (aa ht ae))) λ h3 g3 t3 L3=>?_
 exact hR h3 g3 t3 _ _ L3
end
section
variable {A:Around}{xs:VA}{n:Nat}{hs:Int}{tk0 tk1:Tok}
theorem GG {v:Int}(kin:(KP w P).In hh) (hv:v.natAbs < 1000) (R:RP) (hR:∀ h' (g':BG) t' tk,ag (KP w P) hh h' [] [] []→R (.ok (.ret (.int (-v) tk))) ⟨h',g',dr,t',os⟩):
  codeAny (model pg w) AF (.call (.ref 35) ⟨[.int v vt],[]⟩) R ⟨hh,gg,dr,tt,os⟩:=by
 obtain ⟨N,hN⟩:=bd hh
 refine dv [] am [.k,U,U,.e,U,.e,.e] (ag.nil kin) hN λ ps=>?_
 refine eN [] 1000 [] ⟨.ok (.ret (.int (-v) (tt+1))),[],[]⟩ rfl (by kernel_rfl) (by decide) rfl ae λ h3 g3 t3 L3=>?_
 exact hR h3 g3 t3 _ L3
end
noncomputable def Dr (w:World) (P:KF):Sp:=⟨620,2100,false,
 λ c fd=>none,
 λ c fd=>⟨.call (.ref 35) ⟨[.int (bD (b8 c 0)) (bE (b8 c 0))],[]⟩,[],[],[],
  λ z=>.ok (.ret (.int (-(bD (b8 c 0))) (z 0))),λ z=>[],λ _=>[],λ _=>[],[(bD (b8 c 0)).natAbs < 1000]⟩⟩
theorem w3:bO w (KP w P) (Dr w P):=by
 rintro c fd r rfl hc ho
 refine ⟨λ _=>rfl,λ h g d t os R L hp x=>?_⟩
 have h0:(bD (b8 c 0)).natAbs < 1000:=ho _ (.head _)
 refine GG L.kin h0 R λ h' g' t' tk L'=>?_
 exact x (λ i=>tk) h' _ t' (λ e=>by cases e) L'
set_option backward.match.sparseCases true
section
variable {A:Around}
noncomputable abbrev AH (l:List Env):Around:=⟨none,620,some l,none,2100⟩
noncomputable abbrev aV (w:World) (es:List (Str×Tok×Value)) (n:Nat) (sl:iT):Obj:=⟨.type "frame",none,.dict ⟨es.map (HN w)⟩ n,sl⟩
noncomputable def iW (i:Nat):Stmt:=fe (fB (st 5)) i
noncomputable def DJ:Stmt→List Stmt
 |.Try b _ _ _ _=>b
 |_=>[]
noncomputable def Gh:Stmt→PySem.Expr
 |.Try _ (.ExceptHandler (some t) _ _ _::_) _ _ _=>t
 |_=>default
noncomputable def Ak:Stmt→List Stmt
 |.Try _ (.ExceptHandler _ _ b _::_) _ _ _=>b
 |_=>[]
noncomputable def Hz:Stmt→Pos
 |.Try _ (.ExceptHandler _ _ _ p::_) _ _ _=>p
 |_=>default
noncomputable def Hi:Stmt→Pos
 |.Try _ _ _ _ p=>p
 |_=>default
noncomputable def cM (L:Addr):Env:={ scope:=fS (st 5),locals:=L,globals:=3,cells:=[],qual:="length_hint.<locals>.",func:=some 50,code:=.ref 49,frame:=some L,builtins:=0 }
theorem vm {l:List Env}{v d:Int}{t u:Tok}(R:RP) (L:ag (KP w P) hh hh (cb fl) fl [])
  (hR:∀ h t' N k0 k1,ag (KP w P) hh h (cb fl) ((N,br w [en "obj" k0 (.int v t),en "default" k1 (.int d u)] 2)::fl) []→codeAny (model pg w) (AH l) (.func (fB (st 5)) (cM N)) R ⟨h,gg,dr,t',os⟩):
  codeAny (model pg w) (AH l) (.call (.ref 50) ⟨[.int v t,.int d u],[]⟩) R ⟨hh,gg,dr,tt,os⟩:=by
 obtain ⟨N,hN⟩:=bd hh
 refine dv [] am [.k,.k,U,U,U,U,.s] L hN λ ps=>?_
 refine nP (cR am) (AH l) [0] 1 fl ⟨fB (st 5),cM N,[(N,br w [en "obj" tt (.int v t),en "default" (tt+1) (.int d u)] 2)]⟩ (by kernel_rfl) (by kernel_rfl) (by decide) (λ a ha=>gY _ ha) λ h' t' L'=>?_
 exact hR _ _ _ _ _ L'
theorem vC {l:List Env}{v:Int}{t:Tok}(R:RP) (L:ag (KP w P) hh hh (cb fl) fl [])
  (hR:∀ h t' N k0 k1,ag (KP w P) hh h (cb fl) ((N,br w [en "obj" k0 (.int v t),en "default" k1 (.int 0 220)] 2)::fl) []→codeAny (model pg w) (AH l) (.func (fB (st 5)) (cM N)) R ⟨h,gg,dr,t',os⟩):
  codeAny (model pg w) (AH l) (.call (.ref 50) ⟨[.int v t],[]⟩) R ⟨hh,gg,dr,tt,os⟩:=by
 obtain ⟨N,hN⟩:=bd hh
 refine dv [] am [.k,.k,U,U,U,U,.s] L hN λ ps=>?_
 refine nP (cR am) (AH l) [0] 1 fl ⟨fB (st 5),cM N,[(N,br w [en "obj" tt (.int v t),en "default" (tt+1) (.int 0 220)] 2)]⟩ (by kernel_rfl) (by kernel_rfl) (by decide) (λ a ha=>gY _ ha) λ h' t' L'=>?_
 exact hR _ _ _ _ _ L'
variable {n:Nat}{F:List Addr}{old:aq}{k0 k1:Tok}{v d:Int}{t u:Tok}
noncomputable abbrev rD (w:World) (k0:Tok) (v:Int) (t:Tok) (k1:Tok) (d:Int) (u:Tok) (n:Nat) (sl:iT):Obj:=aV w [en "obj" k0 (.int v t),en "default" k1 (.int d u)] n sl
theorem GC {l:List Env}(L:ag (KP w P) H hh (cb fl) ((N,rD w k0 v t k1 d u n sl)::fl) [])
  (x:∀ h t',ag (KP w P) H h (cb fl) ((N,rD w k0 v t k1 d u n sl)::fl) []→Q .next ⟨h,gg,dr,t',os⟩):
  wpOwn (model pg w) (AH l) (.func (fB (st 5)) (cM N)) (execs [iW 0] (cM N)) Q E ⟨hh,gg,dr,tt,os⟩:=by
 obtain ⟨M,hM⟩:=bd hh
 rw [PySem.W.ZFast.ze12563942051412417395]
 refine dj id (V:=vc w P [] [] [] H (cb fl) M tt gg dr os (cz id Q E)) (cR am) [.k,.k,U,.k,.k,.e,.e,.e] rfl L hM λ ps=>?_
 refine wD rfl [0] 1 fl .next [(N,rD w k0 v t k1 d u n sl)] [] (by kernel_rfl) (by kernel_rfl) Dy (by decide) (λ a ha=>gY _ ha) ae λ h' t' L'=>?_
 exact x _ _ L'
theorem FJ {l:List Env}(L:ag (KP w P) H hh (cb fl) ((N,rD w k0 v t k1 d u n sl)::fl) [])
  (x:∀ h t' M,ag (KP w P) H h (cb fl) ((N,rD w k0 v t k1 d u n sl)::fl++(M+1,dS (.type "TypeError") #[.ref M,.none,.none,.none,.bool false,.none])::[]) []→E (.ref (M+1)) ⟨h,gg,dr,t',os⟩):
  wpOwn (model pg w) (AH l) (.func (fB (st 5)) (cM N)) (execs (DJ (iW 1)) (cM N)) Q E ⟨hh,gg,dr,tt,os⟩:=by
 obtain ⟨M,hM⟩:=bd hh
 rw [PySem.W.ZFast.ze12563942051412417395]
 refine dj id (V:=vc w P [] [] [] H (cb fl) M tt gg dr os (cz id Q E)) (cR am) [.k,.k,U,.e,.e] rfl L hM λ ps=>?_
 refine mu rfl [0,2] 3 fl (.ref (M+1)) [(M+1,dS (.type "TypeError") #[.ref M,.none,.none,.none,.bool false,.none]),(N,rD w k0 v t k1 d u n sl)] [] (by kernel_rfl) (by kernel_rfl) (by decide) (λ a ha=>gY _ (gY _ ha)) ae λ h' t' L'=>?_
 exact x _ _ M (L'.perm (by simpa using jm (l₁:=[_]) (l₂:=(N,_)::fl)))
theorem GU {l:List Env}(L:ag (KP w P) H hh (cb fl) ((N,rD w k0 v t k1 d u n sl)::fl) [])
  (x:∀ h t' M k,ag (KP w P) H h (cb fl) ((N,rD w k0 v t k1 d u n sl)::fl++(M+1,dS (.type "AttributeError") #[.ref M,.none,.none,.none,.bool false,.none,.str "__length_hint__" k,.type "int"])::[]) []→E (.ref (M+1)) ⟨h,gg,dr,t',os⟩):
  wpOwn (model pg w) (AH l) (.func (fB (st 5)) (cM N)) (execs (DJ (iW 2)) (cM N)) Q E ⟨hh,gg,dr,tt,os⟩:=by
 obtain ⟨M,hM⟩:=bd hh
 rw [PySem.W.ZFast.ze12563942051412417395]
 refine dj id (V:=vc w P [] [] [] H (cb fl) M tt gg dr os (cz id Q E)) (cR am) [.k,.k,U,.e,.e,.e,.e,U,U,U,U,U,U,U,U] rfl L hM λ ps=>?_
 refine mu rfl [0,2] 3 fl (.ref (M+1)) [(M+1,dS (.type "AttributeError") #[.ref M,.none,.none,.none,.bool false,.none,.str "__length_hint__" tt,.type "int"]),(N,rD w k0 v t k1 d u n sl)] [] (by kernel_rfl) (by kernel_rfl) (by decide) (λ a ha=>gY _ (gY _ ha)) ae λ h' t' L'=>?_
 exact x _ _ M tt (L'.perm (by simpa using jm (l₁:=[_]) (l₂:=(N,_)::fl)))
theorem Bq:(fS (st 5)).kind≠.module:=by
 have e:(fS (st 5)).kind=.function:=by kernel_rfl
 rw [e];decide
theorem yt:fB (st 5)=iW 0::iW 1::iW 2::(fB (st 5)).drop 3:=by kernel_rfl
theorem zL (i:Nat) (hi:i=1∨i=2):iW i=.Try (DJ (iW i)) [.ExceptHandler (some (Gh (iW i))) none ((Ak (iW i)).headD default::(Ak (iW i)).drop 1) (Hz (iW i))] [] [] (Hi (iW i)):=by
 rcases hi with rfl|rfl<;>kernel_rfl
theorem sX:∀ p∈([]:aq),h.get? p.1=some p.2:=λ _ h=>nomatch h
theorem wM {l:List Env}{vs ts:VA}(L:ag (KP w P) H hh F ((tb,ot)::(rest++[(ea,oe)])) []) (hc:oe.cls=.type "TypeError") (hd:oe.data=.fields vs) (h1:vs[1]?=some (.ref tb)) (ht:ot.data=.fields ts) (h3:3 < ts.size)
  (x:∀ h,ag (KP w P) H h F ((tb,ot.mapFields (·.setIfInBounds 3 .none))::(rest++[(ea,oe)])) []→Q .next ⟨h,gg,dr,tt,os⟩):
  wpOwn (model pg w) (AH l) (.func (fB (st 5)) (cM N)) (handleBy (.ref ea) (cM N) [.ExceptHandler (some (Gh (iW 1))) none ((Ak (iW 1)).headD default::(Ak (iW 1)).drop 1) (Hz (iW 1))]) Q E ⟨hh,gg,dr,tt,os⟩:=by
 have e1:hh.get? tb=some ot:=(L.hown _ (.head _)).1
 have e2:hh.get? ea=some oe:=(L.hown (ea,oe) (.tail _ (bu _ (.head _)))).1
 refine eY (wpAny_handleBy_builtin (T:="TypeError") (X:="TypeError") (b:=true) (by rw [isSubtype_type];kernel_rfl) (by rw [isSubtype_type];kernel_rfl) (by rw [isSubtype_type];kernel_rfl) ?_)
 refine (eR (K:=KP w P) (own:=[]) L.kin sX 1000 [.k,.k] (eval (Gh (iW 1)) (cM N)) [] (.type "TypeError") [] (by kernel_rfl) (λ _ h=>nomatch h) ?_).2
 refine ⟨rfl,⟨oe,e2,hc⟩,?_⟩
 rw [if_pos rfl]
 refine PySem.wpAny_setFlight_none e2 hd h1 e1 ht h3 ?_
 have L1:=L.update (i:=0) (f:=Obj.mapFields (·.setIfInBounds 3 .none)) rfl rfl (Obj.isFreed_of_fields (Obj.data_mapFields ht _))
 refine (eR (K:=KP w P) (own:=[]) L1.kin sX 1000 [] (execs ((Ak (iW 1)).headD default::(Ak (iW 1)).drop 1) (cM N)) [] .next [] (by kernel_rfl) (λ _ h=>nomatch h) ?_).2
 exact x _ L1
theorem wY {l:List Env}{vs ts:VA}(L:ag (KP w P) H hh F ((tb,ot)::((N,rD w k0 v t k1 d u n sl)::rest++[(ea,oe)])) []) (hc:oe.cls=.type "AttributeError") (hd:oe.data=.fields vs) (h1:vs[1]?=some (.ref tb)) (ht:ot.data=.fields ts) (h3:3 < ts.size)
  (x:∀ h,ag (KP w P) H h F ((tb,ot.mapFields (·.setIfInBounds 3 .none))::((N,rD w k0 v t k1 d u n sl)::rest++[(ea,oe)])) []→Q (.ret (.int d u)) ⟨h,gg,dr,tt,os⟩):
  wpOwn (model pg w) (AH l) (.func (fB (st 5)) (cM N)) (handleBy (.ref ea) (cM N) [.ExceptHandler (some (Gh (iW 2))) none ((Ak (iW 2)).headD default::(Ak (iW 2)).drop 1) (Hz (iW 2))]) Q E ⟨hh,gg,dr,tt,os⟩:=by
 have e1:hh.get? tb=some ot:=(L.hown _ (.head _)).1
 have e2:hh.get? ea=some oe:=(L.hown (ea,oe) (.tail _ (bu _ (.head _)))).1
 refine eY (wpAny_handleBy_builtin (T:="AttributeError") (X:="AttributeError") (b:=true) (by rw [isSubtype_type];kernel_rfl) (by rw [isSubtype_type];kernel_rfl) (by rw [isSubtype_type];kernel_rfl) ?_)
 refine (eR (K:=KP w P) (own:=[]) L.kin sX 1000 [.k,.k] (eval (Gh (iW 2)) (cM N)) [] (.type "AttributeError") [] (by kernel_rfl) (λ _ h=>nomatch h) ?_).2
 refine ⟨rfl,⟨oe,e2,hc⟩,?_⟩
 rw [if_pos rfl]
 refine PySem.wpAny_setFlight_none e2 hd h1 e1 ht h3 ?_
 have L1:=L.update (i:=0) (f:=Obj.mapFields (·.setIfInBounds 3 .none)) rfl rfl (Obj.isFreed_of_fields (Obj.data_mapFields ht _))
 refine (eR (K:=KP w P) (own:=[(N,rD w k0 v t k1 d u n sl)]) L1.kin (λ p hp=>by rw [ci.mp hp];exact (L1.hown (N,rD w k0 v t k1 d u n sl) bU).1) 1000 [U] (execs ((Ak (iW 2)).headD default::(Ak (iW 2)).drop 1) (cM N)) [] (.ret (.int d u)) [(.ref N,.ref N)] (by kernel_rfl) (λ y hy=>by rw [ci.mp hy]) ?_).2
 exact x _ L1
theorem tO {l:List Env}(hFr:dP l fl) (L:ag (KP w P) H hh (cb fl) ((N,rD w k0 v t k1 d u n sl)::fl) []) (R:RP)
  (hR:∀ h' t' z,ag (KP w P) H h' (cb fl) (cU fl z) []→R (.ok (.ret (.int d u))) ⟨h',gg,dr,t',os⟩):codeAny (model pg w) (AH l) (.func (fB (st 5)) (cM N)) R ⟨hh,gg,dr,tt,os⟩:=by
 have hF1:∀ o:Obj,(∀ vs,o.data≠.fields vs)→∀ fl',dP l fl'→dP (cM N::l) ((N,o)::fl'):=λ o ho fl' hf=>⟨Bq,rfl,ho,hf⟩
 refine nH ?_
 generalize hE:(λ (_:Value) (_:Shared)=>False)=E
 generalize hQ:(λ (fl_1:Flow) (s':Shared)=>R (.ok (.ret (match fl_1 with|.ret v=>v|_=>.none))) s')=Q
 have hq:∀ h' t' z,ag (KP w P) H h' (cb fl) (cU fl z) []→Q (.ret (.int d u)) ⟨h',gg,dr,t',os⟩:=λ h' t' z L'=>by rw [←hQ];exact hR h' t' z L'
 clear hQ hR hE
 have es:execs (fB (st 5)) (cM N)=execs (iW 0::iW 1::iW 2::(fB (st 5)).drop 3) (cM N):=by rw [←yt]
 rw [es,kC]
 refine bG ?_
 refine GC L λ h t' L=>?_
 show wpOwn _ _ _ (execs (iW 1::iW 2::(fB (st 5)).drop 3) (cM N)) _ _ _
 rw [bf]
 refine bG ?_
 rw [zL 1 (.inl rfl)]
 refine uf ?_
 refine FJ L λ h t' M L=>?_
 refine pM (l:=l) (L:=N) rfl rfl (hF1 _ (λ vs h=>by cases h) _ hFr) L (vs:=#[.ref M,.none,.none,.none,.bool false,.none]) rfl rfl λ h z tb pl L=>?_
 rw [gC] at L
 refine wM L rfl rfl rfl rfl (by simp) λ h L=>?_
 show wpOwn _ _ _ (execs (iW 2::(fB (st 5)).drop 3) (cM N)) _ _ _
 rw [bf]
 refine bG ?_
 rw [zL 2 (.inr rfl)]
 refine uf ?_
 have hU:cb (cU fl λ i=>z (i+1))=cb fl:=iF _ _
 have L:=L.sub ((N,rD w k0 v t k1 d u n (z 0))::cU fl λ i=>z (i+1)) [] (.cons _ (List.sublist_append_left _ _)) (λ _ h=>nomatch h) (by
  have:=L.ndOwn
  rw [List.map_cons,aW] at this
  rw [aX]
  exact ((List.sublist_append_left _ _).trans (List.sublist_cons_self _ _)).nodup this) (λ a ha=>by
   rw [List.map_cons]
   refine .tail _ ?_
   have e:(cU fl λ i=>z (i+1)).map (·.1)=cb fl:=hU
   rw [e];exact ha)
 rw [←hU] at L
 refine GU L λ h t' M k L=>?_
 refine pM (l:=l) (L:=N) rfl rfl (hF1 _ (λ vs h=>by cases h) _ (hFr.up _)) L (vs:=#[.ref M,.none,.none,.none,.bool false,.none,.str "__length_hint__" k,.type "int"]) rfl rfl λ h z2 tb pl L=>?_
 rw [gC] at L
 refine wY L rfl rfl rfl rfl (by simp) λ h L=>?_
 have e3:cU (cU fl λ i=>z (i+1)) (λ i=>z2 (i+1))=cU fl λ i=>z2 (i+1):=by
  unfold cU;apply du<;>simp
 rw [e3,hU] at L
 refine aP (hq _ _ (λ i=>z2 (i+1)) ?_)
 exact L.sub _ [] (.cons _ (.cons _ (List.sublist_append_left _ _))) (λ _ h=>nomatch h) (by
  have:=L.ndOwn
  rw [List.map_cons,List.cons_append,List.map_cons,aW] at this
  rw [aX]
  exact ((List.sublist_append_left _ _).trans ((List.sublist_cons_self _ _).trans (List.sublist_cons_self _ _))).nodup this) (λ a ha=>by
   have e:(cU fl λ i=>z2 (i+1)).map (·.1)=cb fl:=iF _ _
   rw [e];exact ha)
theorem xd {l:List Env}(hFr:dP l fl) (L:ag (KP w P) hh hh (cb fl) fl []) (R:RP)
  (hR:∀ h' t' z,ag (KP w P) hh h' (cb fl) (cU fl z) []→R (.ok (.ret (.int d u))) ⟨h',gg,dr,t',os⟩):codeAny (model pg w) (AH l) (.call (.ref 50) ⟨[.int v t,.int d u],[]⟩) R ⟨hh,gg,dr,tt,os⟩:=
 vm R L λ h t' N k0 k1 L=>tO hFr L R hR
theorem xg {l:List Env}(hFr:dP l fl) (L:ag (KP w P) hh hh (cb fl) fl []) (R:RP)
  (hR:∀ h' t' z,ag (KP w P) hh h' (cb fl) (cU fl z) []→R (.ok (.ret (.int 0 220))) ⟨h',gg,dr,t',os⟩):codeAny (model pg w) (AH l) (.call (.ref 50) ⟨[.int v t],[]⟩) R ⟨hh,gg,dr,tt,os⟩:=
 vC R L λ h t' N k0 k1 L=>tO hFr L R hR
set_option backward.match.sparseCases false
end
section
variable {n:Nat}{hs v:Int}{tk0 tk1:Tok}{q:Str}
noncomputable def fI (c:Code) (n:Nat):Bool:=match c with
 |.call v _=>match v with
  |.ref f=>Nat.beq f n
  |_=>false
 |_=>false
noncomputable def ew (b:Bool) (l:List (Nat×(List (Addr×Obj)→Addr))) (fd:List (Addr×Obj)):Option (Nat×Addr):=match b with
 |true=>match l[fd.length]? with
  |some x=>some (x.1,x.2 fd)
  |none=>none
 |false=>none
theorem uT {F:List Addr}{own old:aq}(L:ag (KP w P) H h F own old) (i:Nat) {o:Obj}(hp:own[i]?=some (a,o)):K0 w a=none:=eJ (L.off _ (bQ hp))
theorem tP {F:List Addr}{own old:aq}(L:ag (KP w P) H h F own old) (i:Nat) {o:Obj}(hp:old[i]?=some (a,o)):K0 w a=none:=eJ (L.offo _ (bQ hp))
theorem Bl (R:RP) (L:ag (KP w P) hh hh [pp] [(pp,ax dd #[] 0)] [(dd,d8 hs tk0 v tk1 dn)])
  (hR:∀ h' x n' t',ag (KP w P) hh h' [pp] [(pp,ax dd #[.ref x] n')] [(dd,d8 hs tk0 v tk1 dn)]→R (.ok (.ret .none)) ⟨h',gg,dr,t',os⟩):
  codeAny (model pg w) A0 (.call (.ref 74) ⟨[.ref pp,.str f tf,.str q tq],[]⟩) R ⟨hh,gg,dr,tt,os⟩:=by
 obtain ⟨N,hN⟩:=bd hh
 refine dv [] am [.k,U,U,U,U,U,U,.e,U,ay,.k,.k,.k,ay,.k,.k,.k,ay,.k,.k,.k,ay,aD,U,U,.e,aj,.k,.e,aj,aj,aj] L hN λ ps=>?_
 refine gz [2] 1000 [] ⟨.ok (.ret (.none)),[(pp,⟨.ref (130),some dd,.seq #[.ref (N+1)] (1),#[]⟩)],[]⟩ rfl (by kernel_rfl) (by kernel_rfl) (by decide) rfl ae λ h' t' L'=>?_
 exact hR _ _ _ _ L'
noncomputable def z5:Sp:=⟨800,3000,true,
 λ c fd=>ew (fI c 74) [(0,λ _=>mB c 0),(1,λ fd=>jS (az fd 0))] fd,
 λ c fd=>⟨.call (.ref 74) ⟨[.ref (aT fd 0),.str (hG (b8 c 1)).1 (hG (b8 c 1)).2,.str (hG (b8 c 2)).1 (hG (b8 c 2)).2],[]⟩,[(aT fd 0,ax (aT fd 1) #[] 0)],[(aT fd 1,Dp (az fd 1) (bD (iv (az fd 1)).val))],[],
  λ _=>.ok (.ret .none),λ z=>[ax (aT fd 1) #[.ref (z 0)] (z 1)],λ _=>[],λ _=>[],[]⟩⟩
theorem vp:bO w (KP w P) z5:=by
 rintro c fd r rfl hc ho
 refine ⟨λ _=>rfl,λ h g d t os R L hp x=>?_⟩
 refine Bl (v:=bD (iv (az fd 1)).val) R L λ h' xv n' t' L'=>?_
 exact x (λ i=>match i with|0=>xv|_=>n') h' g t' (λ _=>rfl) L'
noncomputable def rL (a b:Nat):Int:=match b with
 |0=>Int.ofNat a
 |_+1=>Int.negSucc a
noncomputable def xX:Sp:=⟨800,3000,true,
 λ c fd=>none,
 λ c fd=>⟨.call (.ref 130) ⟨[.int (bD (b8 c 0)) (bE (b8 c 0))],[]⟩,[],[],[],
  λ z=>.ok (.ret (.ref (z 0))),λ z=>[],λ z=>[(z 0,ax (z 1) #[] 0),(z 1,⟨.type "dict",none,.dict #[⟨rL (z 2) (z 3),.str "_initial_size" (z 4),.int (bD (b8 c 0)) (z 5)⟩] (z 6),#[]⟩)],λ _=>[],[]⟩⟩
theorem uP (i:Int):∃ a b:Nat,rL a b=i:=by
 induction i with
 |ofNat a=>exact ⟨a,0,rfl⟩
 |negSucc a=>exact ⟨a,1,rfl⟩
theorem wN:bO w (KP w P) xX:=by
 rintro c fd r rfl hc ho
 refine ⟨λ _=>rfl,λ h g d t os R L hp x=>?_⟩
 refine GD (mx L.kin) R λ h' p dd hs t0 t1 dn t' P'=>?_
 obtain ⟨a,b,e⟩:=uP hs
 have z:=x (λ i=>match i with|0=>p|1=>dd|2=>a|3=>b|4=>t0|5=>t1|_=>dn) h' g t' (λ _=>rfl)
 refine z ?_
 have y:=L.after P' [] rfl (λ _ h=>nomatch h) (λ _ h=>nomatch h)
 rw [aX] at y
 show ag _ _ _ _ [(p,ax dd #[] 0),(dd,⟨_,_,.dict #[⟨rL a b,_,_⟩] _,_⟩)] _
 rw [e]
 exact y
noncomputable def uF:Sp:=⟨800,3000,true,
 λ c fd=>ew (fI c 112) [(0,λ _=>mB c 0),(0,λ fd=>jS (az fd 0)),(1,λ _=>mB c 1)] fd,
 λ c fd=>⟨.call (.ref 112) ⟨[.ref (aT fd 0),.ref (aT fd 2)],[]⟩,[(aT fd 0,ax (aT fd 1) (ad (az fd 0)) (ao (az fd 0))),(aT fd 1,Dp (az fd 1) (bD (iv (az fd 1)).val))],[(aT fd 2,ab (ad (az fd 2)) (ao (az fd 2)))],[],
  λ _=>.ok (.ret .none),λ z=>[ax (aT fd 1) (ad (az fd 2)) (z 0),⟨.type "dict",none,.dict #[⟨rL (z 2) (z 3),.str "_initial_size" (z 4),.int 0 (z 5)⟩] (z 6),#[]⟩],λ _=>[],λ _=>[],[(ad (az fd 0)).size≤1000,(ad (az fd 2)).size≤1000]⟩⟩
theorem sq:bO w (KP w P) uF:=by
 rintro c fd r rfl hc ho
 refine ⟨λ _=>rfl,λ h g d t os R L hp x=>?_⟩
 have h0:(ad (az fd 0)).size≤1000:=ho _ (.head _)
 have h1:(ad (az fd 2)).size≤1000:=ho _ bU
 have n1:aT fd 0≠aT fd 1:=L.neOwn (i:=0) (j:=1) rfl rfl
 have n2:aT fd 0≠aT fd 2:=L.neOld (i:=0) (j:=0) rfl rfl
 have n3:aT fd 1≠aT fd 2:=L.neOld (i:=1) (j:=0) rfl rfl
 refine AB (v:=bD (iv (az fd 1)).val) (mx L.kin) (L.ownAt 0 _ _ rfl) (uT L 0 rfl) (L.ownAt 1 _ _ rfl) (uT L 1 rfl) (L.oldAt 0 _ _ rfl) (tP L 0 rfl) n1 n2 n3 h0 h1 R λ h' n' hs' t0' t1' dn' t' P' e1 e2=>?_
 obtain ⟨a,b,e⟩:=uP hs'
 have z:=x (λ i=>match i with|0=>n'|2=>a|3=>b|4=>t0'|5=>t1'|_=>dn') h' g t' (λ _=>rfl)
 refine z ?_
 have y:=L.after P' [(aT fd 0,ax (aT fd 1) (ad (az fd 2)) n'),(aT fd 1,d8 hs' t0' 0 t1' dn')] rfl (λ a ha=>ha) (λ p hp=>by
  rcases bI.mp hp with rfl|hp
  ·exact e1
  ·rw [ci.mp hp];exact e2)
 show ag _ _ _ _ [(aT fd 0,ax (aT fd 1) (ad (az fd 2)) n'),(aT fd 1,⟨_,_,.dict #[⟨rL a b,_,_⟩] _,_⟩)] _
 rw [e]
 exact y
noncomputable def nh (k:Nat):Sp:=⟨800,3000,true,
 λ c fd=>ew (fI c 82) [(0,λ _=>mB c 0),(1,λ fd=>jS (az fd 0))] fd,
 λ c fd=>⟨.call (.ref 82) ⟨[.ref (aT fd 0),.int (k:Int) (bE (b8 c 1))],[]⟩,[(aT fd 0,ax (aT fd 1) (ad (az fd 0)) (ao (az fd 0)))],[(aT fd 1,Dp (az fd 1) (bD (iv (az fd 1)).val))],[],
  λ z=>.ok (.ret (.ref (z 0))),λ z=>[ax (aT fd 1) ((ad (az fd 0)).toList.take k).toArray (z 1)],λ z=>[(z 0,ab ((ad (az fd 0)).toList.drop k).toArray 0)],λ _=>[],[(ad (az fd 0)).size≤1000,k≤(ad (az fd 0)).size]⟩⟩
theorem nZ:bO w (KP w P) (nh k):=by
 rintro c fd r rfl hc ho
 refine ⟨λ _=>rfl,λ h g d t os R L hp x=>?_⟩
 have h0:(ad (az fd 0)).size≤1000:=ho _ (.head _)
 have h1:k≤(ad (az fd 0)).size:=ho _ bU
 have n1:aT fd 0≠aT fd 1:=L.neOld (i:=0) (j:=0) rfl rfl
 refine wu (v:=bD (iv (az fd 1)).val) (mx L.kin) (L.ownAt 0 _ _ rfl) (uT L 0 rfl) (L.oldAt 0 _ _ rfl) (tP L 0 rfl) n1 h0 h1 R λ h' n' rr t' P' e1=>?_
 have z:=x (λ i=>match i with|0=>rr|_=>n') h' g t' (λ _=>rfl)
 refine z ?_
 have y:=L.after P' [(aT fd 0,ax (aT fd 1) ((ad (az fd 0)).toList.take k).toArray n')] rfl (λ a ha=>ha) (λ p hp=>by rw [ci.mp hp];exact e1)
 exact y.perm (List.Perm.swap _ _ _)
noncomputable def C6 (k:Nat) (xv:Nat):Sp:=⟨700,2000,true,
 λ c fd=>ew (fI c 90) [(0,λ _=>mB c 0),(1,λ fd=>jS (az fd 0))] fd,
 λ c fd=>⟨.call (.ref 90) ⟨[.ref (aT fd 0)],[]⟩,[(aT fd 0,ax (aT fd 1) (ad (az fd 0)) (ao (az fd 0)))],[(aT fd 1,Dp (az fd 1) (bD (iv (az fd 1)).val))],[],
  λ z=>.ok (.ret (.ref xv)),λ z=>[ax (aT fd 1) ((ad (az fd 0)).toList.take k).toArray (z 0)],λ z=>[],λ _=>[],[k≤1000,ad (az fd 0)=((ad (az fd 0)).toList.take k++[Value.ref xv]).toArray,((ad (az fd 0)).toList.take k).length=k]⟩⟩
theorem zR {xv:Nat}:bO w (KP w P) (C6 k xv):=by
 rintro c fd r rfl hc ho
 refine ⟨λ _=>rfl,λ h g d t os R L hp x=>?_⟩
 have h0:k≤1000:=ho _ (.head _)
 have h1:ad (az fd 0)=((ad (az fd 0)).toList.take k++[Value.ref xv]).toArray:=ho _ bU
 have h2:((ad (az fd 0)).toList.take k).length=k:=ho _ fG
 have n1:aT fd 0≠aT fd 1:=L.neOld (i:=0) (j:=0) rfl rfl
 have hpp:h.get? (aT fd 0)=some (ax (aT fd 1) ((ad (az fd 0)).toList.take k++[Value.ref xv]).toArray (ao (az fd 0))):=by
  rw [←h1];exact L.ownAt 0 _ _ rfl
 refine GK (l:=(ad (az fd 0)).toList.take k) (v:=bD (iv (az fd 1)).val) (mx L.kin) hpp (uT L 0 rfl) (L.oldAt 0 _ _ rfl) (tP L 0 rfl) n1 (by lia) R λ h' n' t' P' e1=>?_
 have z:=x (λ i=>n') h' g t' (λ _=>rfl)
 refine z ?_
 exact L.after P' [(aT fd 0,ax (aT fd 1) ((ad (az fd 0)).toList.take k).toArray n')] rfl (λ a ha=>ha) (λ p hp=>by rw [ci.mp hp];exact e1)
noncomputable def yz:Sp:=⟨800,3000,true,
 λ c fd=>ew (fI c 127) [(1,λ _=>mB c 0)] fd,
 λ c fd=>⟨.call (.ref 127) ⟨[.ref (aT fd 0)],[]⟩,[],[(aT fd 0,ax (jS (az fd 0)) (ad (az fd 0)) (ao (az fd 0)))],[],
  λ z=>.ok (.ret (.int ((ad (az fd 0)).size:Int) (z 0))),λ z=>[],λ z=>[],λ _=>[],[]⟩⟩
theorem u9:bO w (KP w P) yz:=by
 rintro c fd r rfl hc ho
 refine ⟨λ _=>rfl,λ h g d t os R L hp x=>?_⟩
 refine jR (mx L.kin) (L.oldAt 0 _ _ rfl) (tP L 0 rfl) R λ h' tk t' P'=>?_
 exact x (λ i=>tk) h' g t' (λ _=>rfl) (L.after P' [] rfl (λ _ h=>nomatch h) (λ _ h=>nomatch h))
end
noncomputable def xC (c:Code):Bool:=match c with|.compStart ..=>true|_=>false
structure CF where
 cells:List (Str×Addr)
 q:Str
 ck:Addr
 fr:Addr
 ex:aq
 old:aq
 pf:aq
 upd:(Nat→Nat)→List Obj
 em:kM
 fm:kJ
 obs:List Prop
variable {cf:List (Addr×Obj)→CF}
noncomputable abbrev BC:=List (Nat×(List (Addr×Obj)→Addr))
variable {asks:BC}
noncomputable def jV (w:World) (P:KF) (A:Around) (e:PySem.Expr) (x:Str) (n:Nat) (it acc gf:Addr) (env:Env) (F:List Addr) (old:aq) (Ex:aq→Prop) (em:kM) (fm:kJ):Prop:=
 ∀ (H:Heap) (R:RP) (dr:Drawn) (os:OsState) (i:Nat),i < n→∀ (ys:VA) (ex nw:aq) (an fn:Nat) (js:List (Str×Tok×Value)) (h:Heap) (g:BG) (t:Nat),Ex ex→ys.size≤i→Js x js→
  ag (KP w P) H h F ([(it,c8 i ((n:Int) - i) 1),(acc,ab ys an),(gf,aJ w js fn)]++(ex++nw)) old→
   (∀ (h':Heap) (g':BG) (t':Nat) (q:Q3) (an' fn':Nat) (tj uj:Tok) (ex':aq),Ex ex'→ag (KP w P) H h' F ([(it,c8 (i+1:Nat) ((n:Int) - (i+1:Nat)) 1),(acc,ab (em i q ys) an'),(gf,aJ w [en x tj (.int i uj)] fn')]++(ex'++(fm i q++nw))) old→
    codeAny (model pg w) A (.compLoop e 0 (.ref it) (.ref acc) env) R ⟨h',g',dr,t',os⟩)→codeAny (model pg w) A (.compLoop e 0 (.ref it) (.ref acc) env) R ⟨h,g,dr,t,os⟩
noncomputable def fq (w:World) (P:KF) (A:Around) (e:PySem.Expr) (x:Str) (xs:VA) (ls it acc gf:Addr) (env:Env) (F:List Addr) (old:aq) (Ex:aq→Prop) (em:kM) (fm:kJ):Prop:=
 ∀ (H:Heap) (R:RP) (dr:Drawn) (os:OsState) (i:Nat) (v:Value),xs[i]?=some v→∀ (ys:VA) (ex nw:aq) (an fn:Nat) (js:List (Str×Tok×Value)) (h:Heap) (g:BG) (t:Nat),Ex ex→ys.size≤i→Js x js→
  ag (KP w P) H h F ([(it,cr ls i),(acc,ab ys an),(gf,aJ w js fn)]++(ex++nw)) old→
   (∀ (h':Heap) (g':BG) (t':Nat) (q:Q3) (an' fn':Nat) (tj:Tok) (ex':aq),Ex ex'→ag (KP w P) H h' F ([(it,cr ls (i+1:Nat)),(acc,ab (em i q ys) an'),(gf,aJ w [en x tj v] fn')]++(ex'++(fm i q++nw))) old→
    codeAny (model pg w) A (.compLoop e 0 (.ref it) (.ref acc) env) R ⟨h',g',dr,t',os⟩)→codeAny (model pg w) A (.compLoop e 0 (.ref it) (.ref acc) env) R ⟨h,g,dr,t,os⟩
noncomputable def mU (w:World) (dp un:Nat) (e:PySem.Expr) (x:Str) (n:Nat) (asks:BC) (cf:List (Addr×Obj)→CF):Sp:=⟨dp,un,false,
 λ c fd=>ew (xC c) ((0,λ _=>nQ c)::(0,λ _=>j5 c)::(0,λ _=>(iK c).locals)::asks) fd,
 λ c fd=>⟨.compStart e 0 (.ref (aT fd 0)) (.ref (aT fd 1)) (hV e (aT fd 2) (cf fd).cells (cf fd).q (cf fd).ck (cf fd).fr),
  (aT fd 0,c8 ((0:Nat):Int) ((n:Int) - ((0:Nat):Int)) 1)::(aT fd 1,ab #[] (ao (az fd 1)))::(aT fd 2,aJ w [] (mM (az fd 2)))::(cf fd).ex,(cf fd).old,(cf fd).pf,
  λ _=>.ok .next,
  λ z=>c8 n ((n:Int) - n) 1::ab (cn (cf fd).em (aw z n)) (z 0)::aJ w (Bm x n (z 1) (.int ((n - 1:Nat):Int) (z 2))) (z 3)::(cf fd).upd z,
  λ _=>[],λ z=>ec (cf fd).fm (aw z n),(cf fd).obs⟩⟩
noncomputable def ii (w:World) (dp un:Nat) (e:PySem.Expr) (x:Str) (asks:BC) (ls:List (Addr×Obj)→Addr) (xs:List (Addr×Obj)→VA) (sz:Nat) (cf:List (Addr×Obj)→CF):Sp:=⟨dp,un,false,
 λ c fd=>ew (xC c) ((0,λ _=>nQ c)::(0,λ _=>j5 c)::(0,λ _=>(iK c).locals)::asks) fd,
 λ c fd=>⟨.compStart e 0 (.ref (aT fd 0)) (.ref (aT fd 1)) (hV e (aT fd 2) (cf fd).cells (cf fd).q (cf fd).ck (cf fd).fr),
  (aT fd 0,cr (ls fd) ((0:Nat):Int))::(aT fd 1,ab #[] (ao (az fd 1)))::(aT fd 2,aJ w [] (mM (az fd 2)))::(cf fd).ex,(cf fd).old,(cf fd).pf,
  λ _=>.ok .next,
  λ z=>jW sz::ab (cn (cf fd).em (aw z sz)) (z 0)::aJ w (Bm x sz (z 1) ((xs fd).getD (sz - 1) .none)) (z 3)::(cf fd).upd z,
  λ _=>[],λ z=>ec (cf fd).fm (aw z sz),(cf fd).obs⟩⟩
noncomputable def zd (Ex:aq→Prop) (f:CF):Prop:=Ex f.ex∧∀ ex,Ex ex→∃ y:Nat→Nat,∀ z:Nat→Nat,(∀ k,4≤k→k < 10→z k=y k)→ex=rP f.ex (f.upd z)
theorem bT {f:CF}(h:f.ex=[]) (h2:f.upd=λ _=>[]):zd (λ l=>l=[]) f:=⟨h,λ ex he=>⟨id,λ z hz=>by rw [h,he];rfl⟩⟩
noncomputable def BO (l:aq):Prop:=∃ o,l=[(92,o)]∧al 61 19 o
theorem xG {f:CF}{o:Obj}(h:f.ex=[(92,o)]) (ho:al 61 19 o) (h2:f.upd=λ z=>[dz 61 19 (z 4) (z 5)]):zd BO f:=⟨⟨o,h,ho⟩,λ ex he=>by
 obtain ⟨o',rfl,ho'⟩:=he
 obtain ⟨k,a,rfl⟩:=li ho'
 refine ⟨λ i=>match i with|4=>k|_=>a,λ z hz=>?_⟩
 rw [h,h2]
 show _=[(92,dz 61 19 (z 4) (z 5))]
 rw [hz 4 (by omega) (by omega),hz 5 (by omega) (by omega)];rfl⟩
noncomputable def GR (l:aq):Prop:=∃ o o',l=[(92,o),(99,o')]∧al 61 19 o∧al 64 32 o'
theorem Gx {f:CF}{o:Obj}(h:f.ex=[(92,o),(99,o2)]) (ho:al 61 19 o) (ho2:al 64 32 o2) (h2:f.upd=λ z=>[dz 61 19 (z 4) (z 5),dz 64 32 (z 6) (z 7)]):zd GR f:=⟨⟨o,o2,h,ho,ho2⟩,λ ex he=>by
 obtain ⟨o',o'',rfl,ho',ho''⟩:=he
 obtain ⟨k,a,rfl⟩:=li ho'
 obtain ⟨k2,a2,rfl⟩:=li ho''
 refine ⟨λ i=>match i with|4=>k|5=>a|6=>k2|_=>a2,λ z hz=>?_⟩
 rw [h,h2]
 show _=[(92,dz 61 19 (z 4) (z 5)),(99,dz 64 32 (z 6) (z 7))]
 rw [hz 4 (by omega) (by omega),hz 5 (by omega) (by omega),hz 6 (by omega) (by omega),hz 7 (by omega) (by omega)];rfl⟩
section
theorem f5 (hdp:dp≤950) (hun:un≤6000) {x:Str}{n:Nat}(he:e=iU e) (hem:∀ fd i q ys,((cf fd).em i q ys).size≤ys.size+1) (hu:∀ fd z,((cf fd).upd z).length=(cf fd).ex.length)
  (ok:∀ fd,(∀ y∈(cf fd).obs,y)→(∀ p∈(cf fd).pf,KP w P p.1=some p.2)→∃ Ex,zd Ex (cf fd)∧jV w P ⟨none,dp,none,none,un⟩ e x n (aT fd 0) (aT fd 1) (aT fd 2) (hV e (aT fd 2) (cf fd).cells (cf fd).q (cf fd).ck (cf fd).fr) (aT fd 0::aT fd 1::aT fd 2::(cf fd).ex.map (·.1)) (cf fd).old Ex (cf fd).em (cf fd).fm):
  bO w (KP w P) (mU w dp un e x n asks cf):=by
 rintro c fd r rfl hc ho
 refine ⟨λ z=>by simp [mU,hu],λ h g d t os R L hp x=>?_⟩
 obtain ⟨Ex,⟨hex,hex2⟩,iX⟩:=ok fd ho hp
 refine pY (j3 hdp hun) Ex (cf fd).em (cf fd).fm hex (hem fd) he L (λ i hi ys ex nw an fn js h g t h1 h2 h3 L' k=>iX _ _ _ _ i hi ys ex nw an fn js h g t h1 h2 h3 L' k) ?_
 intro h' g' t' qs ex an fn js u hq hx hj L'
 obtain ⟨tj,rfl⟩:=hj.is
 subst hq
 obtain ⟨y,hy⟩:=hex2 ex hx
 obtain ⟨z,hz,hz'⟩:=il qs (λ k=>match k with|0=>an|1=>tj|2=>u|3=>fn|k=>y k)
 refine x z h' g' t' (λ e=>by cases e) ?_
 have e4:=hy z (λ k h1 h2=>by rw [hz' k h2];match k,h1 with|k+4,_=>rfl)
 show ag _ _ _ _ ([(_,_),(_,ab (cn (cf fd).em (aw z qs.length)) (z 0)),(_,aJ w (Bm _ qs.length (z 1) (.int ((qs.length - 1:Nat):Int) (z 2))) (z 3))]++rP (cf fd).ex ((cf fd).upd z)++ec (cf fd).fm (aw z qs.length)) _
 rw [hz,hz' 0 (by omega),hz' 1 (by omega),hz' 2 (by omega),hz' 3 (by omega),←e4,bC]
 exact L'
theorem cC (hdp:dp≤950) (hun:un≤6000) {x:Str}{ls:List (Addr×Obj)→Addr}{xs:List (Addr×Obj)→VA}(he:e=iU e) (hem:∀ fd i q ys,((cf fd).em i q ys).size≤ys.size+1) (hu:∀ fd z,((cf fd).upd z).length=(cf fd).ex.length)
  (ok:∀ fd,(∀ y∈(cf fd).obs,y)→(∀ p∈(cf fd).pf,KP w P p.1=some p.2)→∃ Ex o,(xs fd).size=sz∧A4 w P (cf fd).old (ls fd) o (xs fd)∧zd Ex (cf fd)∧fq w P ⟨none,dp,none,none,un⟩ e x (xs fd) (ls fd) (aT fd 0) (aT fd 1) (aT fd 2) (hV e (aT fd 2) (cf fd).cells (cf fd).q (cf fd).ck (cf fd).fr) (aT fd 0::aT fd 1::aT fd 2::(cf fd).ex.map (·.1)) (cf fd).old Ex (cf fd).em (cf fd).fm):
  bO w (KP w P) (ii w dp un e x asks ls xs sz cf):=by
 rintro c fd r rfl hc ho
 refine ⟨λ z=>by simp [ii,hu],λ h g d t os R L hp x=>?_⟩
 obtain ⟨Ex,o,hsz,hk,⟨hex,hex2⟩,iX⟩:=ok fd ho hp
 refine sD (j3 hdp hun) (o:=o) Ex (cf fd).em (cf fd).fm hex (hem fd) he hk L (λ i v hi ys ex nw an fn js h g t h1 h2 h3 L' k=>iX _ _ _ _ i v hi ys ex nw an fn js h g t h1 h2 h3 L' k) ?_
 intro h' g' t' qs ex an fn js hq hx hj L'
 rw [hsz] at hq hj L'
 obtain ⟨tj,rfl⟩:=hj.is
 obtain ⟨y,hy⟩:=hex2 ex hx
 obtain ⟨z,hz,hz'⟩:=il qs (λ k=>match k with|0=>an|1=>tj|2=>0|3=>fn|k=>y k)
 refine x z h' g' t' (λ e=>by cases e) ?_
 have e4:=hy z (λ k h1 h2=>by rw [hz' k h2];match k,h1 with|k+4,_=>rfl)
 show ag _ _ _ _ ([(_,_),(_,ab (cn (cf fd).em (aw z sz)) (z 0)),(_,aJ w (Bm _ sz (z 1) ((xs fd).getD (sz - 1) .none)) (z 3))]++rP (cf fd).ex ((cf fd).upd z)++ec (cf fd).fm (aw z sz)) _
 rw [←hq,hz,hz' 0 (by omega),hz' 1 (by omega),hz' 3 (by omega),←e4,bC,hq]
 exact L'
end
section
variable {A:Around}
noncomputable def pQ:PySem.Expr:=eh (fe (fB (st 11)) 0)
noncomputable abbrev DU (it acc gf ck cl fr:Addr):Code:=.compLoop pQ 0 (.ref it) (.ref acc) (hV pQ gf [("look",ck),("letter",cl)] "_law_row.<locals>." 143 fr)
theorem EI (k:Nat):(2:Int) ^ k≠0:=by
 have:(0:Int) < 2 ^ k:=Int.pow_pos (by omega)
 omega
theorem j7 {a b:Int}(h:0≤a∧a < 10 ^ 9):Builtin.divisionGoesByPylong a b=false:=by
 unfold Builtin.divisionGoesByPylong
 have:a.natAbs.log2 < 30:=by
  by_cases h0:a.natAbs=0
  ·rw [h0];decide
  ·exact (Nat.log2_lt h0).mpr (by omega)
 have e:(if (a==0)=true then 0 else a.natAbs.log2 / 30+1)≤1:=by
  split
  ·omega
  ·have:a.natAbs.log2 / 30=0:=Nat.div_eq_of_lt this
   omega
 simp only [Bool.and_eq_false_iff,decide_eq_false_iff_not]
 omega
theorem zO {it acc gf ck fr:Addr}{look:Int}{n:Nat}{js:List (Str×Tok×Value)}{tj:Tok}{vj:Value}(hj:js=[]∨js=[en "j" tj vj]) (nw:aq) (b:Bool) (R:RP)
  (hb:((look.fdiv (2 ^ ((i:Int)+1).toNat)).fmod 2==1)=b) (hi:i < n) (hn:n≤6) (hy:ys.size≤1000) (hlk:0≤look∧look < 10 ^ 9)
  (L:ag (KP w P) H hh [it,acc,gf] ([(it,c8 i ((n:Int) - i) 1),(acc,ab ys an),(gf,aJ w js fn)]++nw) [(ck,ak (.int look t1)),(cl,ak (.str letter t2))])
  (hR:∀ h' (g':BG) t' q tq uq kq an' tj' fn',ag (KP w P) H h' [it,acc,gf] ([(it,c8 (i+1:Nat) ((n:Int) - (i+1:Nat)) 1),(acc,ab (ys.push (.ref q)) an'),(gf,aJ w [("j",tj',.int i kq)] fn'),(q,aU #[.str (if b then " " else "") tq,.str (if b then "" else letter) uq] 0)]++nw) [(ck,ak (.int look t1)),(cl,ak (.str letter t2))]→
   codeAny (model pg w) AI (DU it acc gf ck cl fr) R ⟨h',g',dr,t',os⟩):
  codeAny (model pg w) AI (DU it acc gf ck cl fr) R ⟨hh,gg,dr,tt,os⟩:=by
 obtain ⟨N,hN⟩:=bd hh
 obtain ⟨w,c,rfl⟩:=cB w
 refine dv [b9 i n,aN,Fu,uH,rn,su ((look.fdiv (2 ^ ((i:Int)+1).toNat)).fmod 2) 1 b] am ([U,.e,U,.c 0 [0],aj,aj,aD,aj,.e,.e,.e,.c 2 [],.e,.c 3 [],.e,.c 4 [],.e,.c 5 []]++(cond b [] [bJ]++[.e,aj,.c 1 [2],.s])) L hN λ ps=>?_
 refine m9 AI [1,2,3,0] 4 nw ⟨DU it acc gf ck cl fr,true,none,[(it,kX (i+1) n),(acc,ab (ys.push (.ref ((ps 4).3))) ((ps 5).6 0)),(gf,aJ w [("j",g7 js (ps 0).4,.int ((↑i:Int)) ((ps 0).6 0))] (g0 js fn)),((ps 4).3,aU #[.str (if b then " " else "") ((ps 4).4),.str (if b then "" else letter) (if b then (ps 4).4+1 else t2)] 0)],[(ad (ab ys an)).size≤1000,((look.fdiv ((2:Int) ^ ((↑i:Int)+(1:Int)).toNat)).fmod (2:Int)==(1:Int))=b,(2:Int)≠(0:Int),(2:Int) ^ ((↑i:Int)+(1:Int)).toNat≠(0:Int),Builtin.divisionGoesByPylong look ((2:Int) ^ ((↑i:Int)+(1:Int)).toNat)=false,(0:Int) < (↑i:Int)+(1:Int),(↑i:Int)+(1:Int) < (100:Int),i < n]⟩ rfl (by apply IQ hj b c;kernel_rfl) (by decide) rfl rfl rfl rfl rfl ?_ λ h' g' t' L'=>?_
 ·repeat' first|exact ae|refine aa ?_ ?_
  all_goals first|exact hy|exact hb|omega|exact EI _|exact j7 hlk
 exact hR _ _ _ _ _ _ _ _ _ _ L'
end
section
variable {A:Around}
noncomputable def eQ (look:Int) (letter:Str) (j:Nat):Str×Str:=if ((look.fdiv (2 ^ ((j:Int)+1).toNat)).fmod 2==1)=true then (" ","") else ("",letter)
noncomputable def mO (f:Nat→Str×Str) (qs:List (Nat×Nat×Nat)):aq:=(qs.mapIdx λ j q=>(q.1,aU #[.str (f j).1 q.2.1,.str (f j).2 q.2.2] 0)).reverse
noncomputable def iZ (qs:List (Nat×Nat×Nat)):VA:=(qs.map λ q=>Value.ref q.1).toArray
theorem zY (f:Nat→Str×Str) (qs:List (Nat×Nat×Nat)) (q t u:Nat):mO f (qs++[(q,t,u)])=(q,aU #[.str (f qs.length).1 t,.str (f qs.length).2 u] 0)::mO f qs:=by
 unfold mO
 rw [List.mapIdx_append]
 simp
theorem xi (qs:List (Nat×Nat×Nat)) (q t u:Nat):iZ (qs++[(q,t,u)])=(iZ qs).push (.ref q):=by
 unfold iZ;simp
theorem dw (qs:List (Nat×Nat×Nat)):(iZ qs).size=qs.length:=by unfold iZ;simp
theorem A3:pQ=iU pQ:=by kernel_rfl
theorem zc {it acc gf ck fr:Addr}{look:Int}{n:Nat}(hn:n≤6) (hlk:0≤look∧look < 10 ^ 9)
  (L:ag (KP w P) H hh [it,acc,gf] [(it,c8 ((0:Nat):Int) ((n:Int) - ((0:Nat):Int)) 1),(acc,ab #[] an),(gf,aJ w [] fn)] [(ck,ak (.int look t1)),(cl,ak (.str letter t2))])
  (hR:∀ h' (g':BG) t' qs an fn js u,qs.length=n→yv "j" n (λ k=>.int k u) js→ag (KP w P) H h' [it,acc,gf] ([(it,c8 n ((n:Int) - n) 1),(acc,ab (iZ qs) an),(gf,aJ w js fn)]++mO (eQ look letter) qs) [(ck,ak (.int look t1)),(cl,ak (.str letter t2))]→R (.ok .next) ⟨h',g',dr,t',os⟩):
  codeAny (model pg w) AI (.compStart pQ 0 (.ref it) (.ref acc) (hV pQ gf [("look",ck),("letter",cl)] "_law_row.<locals>." 143 fr)) R ⟨hh,gg,dr,tt,os⟩:=by
 refine lY (j3 (by decide) (by decide)) (x:="j") (λ i ys nw=>∃ qs,qs.length=i∧ys=iZ qs∧nw=mO (eQ look letter) qs) A3 ⟨[],rfl,rfl,rfl⟩ L ?_ ?_
 ·rintro i hi ys nw an fn js h g t ⟨qs,rfl,rfl,rfl⟩ hj L' k
  obtain ⟨tj,vj,hj'⟩:∃ tj vj,js=[]∨js=[en "j" tj vj]:=by
   rcases hj with hj|⟨t,v,hj⟩
   ·exact ⟨0,.none,.inl hj⟩
   ·exact ⟨t,v,.inr hj⟩
  refine zO hj' _ _ R rfl hi hn (by rw [dw];lia) hlk L' λ h' g' t' q tq uq kq an' tj' fn' L2=>?_
  refine k h' g' t' _ _ an' fn' tj' kq ⟨qs++[(q,tq,uq)],by simp,rfl,rfl⟩ ?_
  rw [zY,xi]
  have e:(if ((look.fdiv (2 ^ ((qs.length:Int)+1).toNat)).fmod 2==1)=true then (" ":Str) else "")=(eQ look letter qs.length).1:=by unfold eQ;split<;>rfl
  have e2:(if ((look.fdiv (2 ^ ((qs.length:Int)+1).toNat)).fmod 2==1)=true then ("":Str) else letter)=(eQ look letter qs.length).2:=by unfold eQ;split<;>rfl
  rw [e,e2] at L2
  exact L2
 ·rintro h' g' t' ys nw an fn js u ⟨qs,h1,rfl,rfl⟩ hj L'
  exact hR h' g' t' qs an fn js u h1 hj L'
noncomputable def zp (w:World) (n:Nat) (look:Int) (letter:Str):Sp:=⟨700,2600,false,
 λ c fd=>match fd.length with
  |0=>some (0,nQ c)
  |1=>some (0,j5 c)
  |2=>some (0,(iK c).locals)
  |3=>some (1,Di c 0)
  |4=>some (1,Di c 1)
  |_=>none,
 λ c fd=>⟨.compStart pQ 0 (.ref (aT fd 0)) (.ref (aT fd 1)) (hV pQ (aT fd 2) [("look",aT fd 3),("letter",aT fd 4)] "_law_row.<locals>." 143 (F4 c)),
  [(aT fd 0,c8 ((0:Nat):Int) ((n:Int) - ((0:Nat):Int)) 1),(aT fd 1,ab #[] (ao (az fd 1))),(aT fd 2,aJ w [] (mM (az fd 2)))],
  [(aT fd 3,ak (.int look (bE (fT (az fd 3))))),(aT fd 4,ak (.str letter (bE (fT (az fd 4)))))],[],
  λ _=>.ok .next,
  λ z=>[c8 n ((n:Int) - n) 1,ab (iZ (aw z n)) (z 0),aJ w (Bm "j" n (z 1) (.int ((n - 1:Nat):Int) (z 2))) (z 3)],
  λ _=>[],λ z=>mO (eQ look letter) (aw z n),[n≤6,0≤look∧look < 10 ^ 9]⟩⟩
theorem qP {n:Nat}{look:Int}:bO w (KP w P) (zp w n look letter):=by
 rintro c fd r rfl hc ho
 refine ⟨λ _=>rfl,λ h g d t os R L hp x=>?_⟩
 have h1:n≤6:=ho _ (.head _)
 have h2:0≤look∧look < 10 ^ 9:=ho _ bU
 refine zc h1 h2 L λ h' g' t' qs an fn js u hq hj L'=>?_
 obtain ⟨tj,rfl⟩:=hj.is
 subst hq
 obtain ⟨z,hz,hz'⟩:=il qs (λ k=>match k with|0=>an|1=>tj|2=>u|_=>fn)
 have y:=x z h' g' t' (λ e=>by cases e)
 refine y ?_
 show ag _ _ _ _ ([(_,_),(_,ab (iZ (aw z qs.length)) (z 0)),(_,aJ w (Bm "j" qs.length (z 1) (.int ((qs.length - 1:Nat):Int) (z 2))) (z 3))]++mO (eQ look letter) (aw z qs.length)) _
 rw [hz,hz' 0 (by omega),hz' 1 (by omega),hz' 2 (by omega),hz' 3 (by omega)]
 exact L'
end
section
variable {A:Around}
noncomputable abbrev AR:Around:=⟨none,620,none,none,2100⟩
noncomputable def jZ (b:Bool) (look:Int) (letter:Str) (j:Nat):Str×Str:=match b with
 |false=>eQ look letter j
 |true=>match j with
  |0=>("","")
  |k+1=>eQ look letter k
theorem wq (look:Int) (letter:Str) (q:Nat×Nat×Nat) (qs:List (Nat×Nat×Nat)):mO (jZ true look letter) (q::qs)=mO (eQ look letter) qs++[(q.1,aU #[.str "" q.2.1,.str "" q.2.2] 0)]:=by
 unfold mO
 rw [List.mapIdx_cons,List.reverse_cons]
 rfl
theorem B3 {F:List Addr}{qs:List (Nat×Nat×Nat)}{q t u r:Nat}{look:Int}(L:ag (KP w P) h h' F ([(r,ab (#[.ref q]++iZ qs) an),(q,aU #[.str "" t,.str "" u] 0)]++mO (eQ look letter) qs) []):
  ag (KP w P) h h' F ([(r,ab (iZ ((q,t,u)::qs)) an)]++mO (jZ true look letter) ((q,t,u)::qs)) []:=by
 rw [wq]
 have e:iZ ((q,t,u)::qs)=#[.ref q]++iZ qs:=by unfold iZ;simp
 rw [e]
 exact L.perm ((jm (l₁:=[(q,aU #[.str "" t,.str "" u] 0)])).cons _)
theorem GQ {look:Int}{t3:Tok}{size:Nat}(kin:(KP w P).In hh) (hs:size≤6) (hlk:0≤look∧look < 10 ^ 9) (b:Bool) (hb:(look.fmod 2==1)=b) (R:RP)
  (hR:∀ h' (g':BG) t' r an qs,qs.length=size+b.toNat→ag (KP w P) hh h' [] ([(r,ab (iZ qs) an)]++mO (jZ b look letter) qs) []→R (.ok (.ret (.ref r))) ⟨h',g',dr,t',os⟩):
  codeAny (model pg w) AR (.call (.ref 144) ⟨[.int look t1,.str letter t2,.int size t3],[]⟩) R ⟨hh,gg,dr,tt,os⟩:=by
 obtain ⟨N,hN⟩:=bd hh
 obtain ⟨w,c,rfl⟩:=cB w
 cases b
 ·refine dv [eI size,c0 (zp _ size look letter) qP,xS,rn,su (look.fmod 2) 1 false] am ([.k,ay,ay,U,U,aj,aj,.e,.k,.k,aj,.e,.e,.e,.e,U,U,.e,U,.e,U,U,U,.e,U,.c 0 [0],U,.c 1 [2,1,0,5,4],dR,dR,U]++((match (generalizing:=false) size with|0=>[]|_=>[U,U])++[fv,.e,.c 3 [],.e,.c 4 [],dR])) (ag.nil kin) hN λ ps=>?_
  refine eN [1] 7 (mO (eQ look letter) (aw (ps 1).as size)) ⟨.ok (.ret (.ref ((ps 0).3))),[((ps 0).3,ab (iZ (aw (ps 1).as size)) ((ps 1).6 0))],[(look.fmod (2:Int)==(1:Int))=false,(2:Int)≠(0:Int),size≤(6:Nat),(0:Int)≤look∧look < (10:Int) ^ (9:Nat),size < (1000:Nat)]⟩ rfl (by apply nq size c;kernel_rfl) (by decide) rfl ?_ λ h' g' t' L'=>?_
  ·repeat' first|exact ae|refine aa ?_ ?_
   all_goals first|exact hb|exact hlk|lia|(simp [dw,aw];done)|(simp [dw,aw];lia)
  exact hR _ _ _ _ _ (aw (ps 1).as size) (by simp [aw]) L'
 ·refine dv [eI size,c0 (zp _ size look letter) qP,xS,rn,su (look.fmod 2) 1 true] am ([.k,ay,ay,U,U,aj,aj,.e,.k,.k,aj,.e,.e,.e,.e,U,U,.e,U,.e,U,U,U,.e,U,.c 0 [0],U,.c 1 [2,1,0,5,4],dR,dR,U]++((match (generalizing:=false) size with|0=>[]|_=>[U,U])++[fv,.e,.c 3 [],.e,.c 4 [],mW,U,cS,U,.e,U,.c 2 [0,3]])) (ag.nil kin) hN λ ps=>?_
  refine eN [0,2] 10 (mO (eQ look letter) (aw (ps 1).as size)) ⟨.ok (.ret (.ref ((ps 4).6 0))),[((ps 4).6 0,ab (#[.ref ((ps 3).3)]++(iZ (aw (ps 1).as size))) 0),((ps 3).3,aU #[.str "" ((ps 3).4),.str "" ((ps 3).4+1)] 0)],[([Value.ref ((ps 3).3+(0:Nat))]++[]).toArray.size+(iZ (aw (ps 1).as size)).size≤(1000:Nat),(look.fmod (2:Int)==(1:Int))=true,(2:Int)≠(0:Int),size≤(6:Nat),(0:Int)≤look∧look < (10:Int) ^ (9:Nat),size < (1000:Nat)]⟩ rfl (by apply nq size c;kernel_rfl) (by decide) rfl ?_ λ h' g' t' L'=>?_
  ·repeat' first|exact ae|refine aa ?_ ?_
   all_goals first|exact hb|exact hlk|lia|(simp [dw,aw];done)|(simp [dw,aw];lia)
  exact hR _ _ _ _ _ ((_,_,_)::aw (ps 1).as size) (by simp [aw]) (B3 L')
end
noncomputable def ia (look:Int):Nat:=(look.fmod 2==1).toNat
noncomputable def yu (w:World) (P:KF):Sp:=⟨620,2100,false,
 λ c fd=>none,
 λ c fd=>⟨.call (.ref 144) ⟨[.int (bD (b8 c 0)) (bE (b8 c 0)),.str (hG (b8 c 1)).1 (hG (b8 c 1)).2,.int ((bD (b8 c 2)).toNat:Int) (bE (b8 c 2))],[]⟩,[],[],[],
  λ z=>.ok (.ret (.ref (z 0))),λ z=>[],λ z=>[(z 0,ab (iZ (aw z ((bD (b8 c 2)).toNat+ia (bD (b8 c 0))))) (z 1))],
  λ z=>mO (jZ (bD (b8 c 0)|>.fmod 2|> (·==1)) (bD (b8 c 0)) (hG (b8 c 1)).1) (aw z ((bD (b8 c 2)).toNat+ia (bD (b8 c 0)))),[(bD (b8 c 2)).toNat≤6,0≤bD (b8 c 0)∧bD (b8 c 0) < 10 ^ 9]⟩⟩
theorem vq:bO w (KP w P) (yu w P):=by
 rintro c fd r rfl hc ho
 refine ⟨λ _=>rfl,λ h g d t os R L hp x=>?_⟩
 have h0:(bD (b8 c 2)).toNat≤6:=ho _ (.head _)
 have h1:0≤bD (b8 c 0)∧bD (b8 c 0) < 10 ^ 9:=ho _ bU
 refine GQ L.kin h0 h1 _ rfl R λ h' g' t' r an qs hq L'=>?_
 obtain ⟨z,hz,hz'⟩:=il qs (λ k=>match k with|0=>r|_=>an)
 have y:=x z h' g' t' (λ e=>by cases e)
 have e0:z 0=r:=hz' 0 (by omega)
 have e1:z 1=an:=hz' 1 (by omega)
 have hn:qs.length=(bD (b8 c 2)).toNat+ia (bD (b8 c 0)):=hq
 rw [hn] at hz
 have y2:ag (KP w P) h h' [] ([(z 0,ab (iZ (aw z ((bD (b8 c 2)).toNat+ia (bD (b8 c 0))))) (z 1))]++mO (jZ (bD (b8 c 0)|>.fmod 2|> (·==1)) (bD (b8 c 0)) (hG (b8 c 1)).1) (aw z ((bD (b8 c 2)).toNat+ia (bD (b8 c 0))))) []→R (.ok (.ret (.ref (z 0)))) ⟨h',g',d,t',os⟩:=y
 rw [e0,e1,hz] at y2
 exact y2 L'
noncomputable def bN (P:KF) (S:aq):KF:=λ a=>match S.find? (λ p=>Nat.beq p.1 a) with|some p=>some p.2|none=>P a
theorem dC {o:Obj}(nd:(S.map (·.1)).Nodup) (h:(a,o)∈S):bN P S a=some o:=by
 unfold bN
 cases q:S.find? (λ p=>Nat.beq p.1 a) with
 |none=>
  have:=List.find?_eq_none.mp q (a,o) h
  exact absurd (Nat.beq_refl a) this
 |some p=>
  have h1:=List.mem_of_find?_eq_some q
  have h2:Nat.beq p.1 a=true:=List.find?_some (p:=λ p:Addr×Obj=>Nat.beq p.1 a) q
  have h3:=key_unique nd h1 h (fW h2)
  rw [h3]
theorem eW (h:a∉S.map (·.1)):bN P S a=P a:=by
 unfold bN
 cases q:S.find? (λ p=>Nat.beq p.1 a) with
 |none=>rfl
 |some p=>
  have h1:=List.mem_of_find?_eq_some q
  have h2:Nat.beq p.1 a=true:=List.find?_some (p:=λ p:Addr×Obj=>Nat.beq p.1 a) q
  exact absurd (aY.mpr ⟨p,h1,fW h2⟩) h
theorem bP (h:K0 w a=none):KP w P a=P a:=by
 unfold KP;unfold K0 at h;rw [h]
theorem dN {o:Obj}(h:K0 w a=some o):KP w P a=some o:=by
 unfold KP;unfold K0 at h;rw [h]
theorem eO {o:Obj}(h:KP w P a=some o):K0 w a=some o∨(K0 w a=none∧P a=some o):=by
 cases q:K0 w a with
 |none=>rw [bP q] at h;exact .inr ⟨rfl,h⟩
 |some o'=>rw [dN q] at h;exact .inl (by rw [←h])
section
variable {F:List Addr}{own old:aq}
theorem ag.intoP (L:ag (KP w P) H h F own (S++old)):ag (KP w (bN P S)) H h F own old:=by
 have nd:=L.nd
 rw [aW,aW] at nd
 obtain ⟨n1,n2,n3⟩:=bX.mp nd
 obtain ⟨n4,n5,n6⟩:=bX.mp n2
 have off:∀ a:Addr,KP w P a=none→a∉S.map (·.1)→KP w (bN P S) a=none:=λ a h1 h2=>by
  have h3:=eJ h1
  rw [bP h3] at h1⊢
  rw [eW h2];exact h1
 refine ⟨L.keep,L.hown,λ p hp=>L.hold p (bu _ hp),?_,L.foot,λ a o e=>?_,λ p hp=>off _ (L.off p hp) λ hm=>n3 _ (bW hp) _ (aI _ hm) rfl,λ p hp=>off _ (L.offo p (bu _ hp)) λ hm=>n6 _ hm _ (bW hp) rfl⟩
 ·rw [aW]
  exact bX.mpr ⟨n1,n5,λ x hx y hy=>n3 x hx y (bu _ hy)⟩
 ·rcases eO e with e|⟨e0,e⟩
  ·exact L.kin a o (dN e)
  ·by_cases hm:a∈S.map (·.1)
   ·obtain ⟨p,hp,rfl⟩:=aY.mp hm
    rw [dC n4 (o:=p.2) hp] at e
    rw [←bo e]
    exact L.hold p (aI _ hp)
   ·rw [eW hm] at e
    exact L.kin a o (by rw [bP e0];exact e)
theorem ag.outP (L:ag (KP w (bN P S)) H h F own old) (nd:(S.map (·.1)).Nodup) (hS:∀ p∈S,KP w P p.1=none):ag (KP w P) H h F own (S++old):=by
 have inS:∀ p∈S,KP w (bN P S) p.1=some p.2:=λ p hp=>by
  rw [bP (eJ (hS p hp)),dC nd (o:=p.2) hp]
 have off:∀ a:Addr,KP w (bN P S) a=none→KP w P a=none∧a∉S.map (·.1):=λ a h1=>by
  have hn:a∉S.map (·.1):=λ hm=>by
   obtain ⟨p,hp,rfl⟩:=aY.mp hm
   rw [inS p hp] at h1;cases h1
  have h3:=eJ h1
  rw [bP h3,eW hn] at h1
  exact ⟨by rw [bP h3];exact h1,hn⟩
 have n0:=L.nd
 rw [aW] at n0
 obtain ⟨n1,n2,n3⟩:=bX.mp n0
 refine ⟨L.keep,L.hown,λ p hp=>?_,?_,L.foot,λ a o e=>?_,λ p hp=>(off _ (L.off p hp)).1,λ p hp=>?_⟩
 ·rcases dm.mp hp with hp|hp
  ·exact L.kin _ _ (inS p hp)
  ·exact L.hold p hp
 ·rw [aW,aW]
  refine bX.mpr ⟨n1,bX.mpr ⟨nd,n2,λ x hx y hy e=>?_⟩,λ x hx y hy e=>?_⟩
  ·subst e
   obtain ⟨p,hp,rfl⟩:=aY.mp hy
   exact (off _ (L.offo p hp)).2 hx
  ·subst e
   obtain ⟨p,hp,rfl⟩:=aY.mp hx
   rcases dm.mp hy with hy|hy
   ·exact (off _ (L.off p hp)).2 hy
   ·exact n3 _ (bW hp) _ hy rfl
 ·rcases eO e with e|⟨e0,e⟩
  ·exact L.kin a o (dN e)
  ·by_cases hm:a∈S.map (·.1)
   ·obtain ⟨p,hp,rfl⟩:=aY.mp hm
    have:=hS p hp
    rw [bP e0,e] at this;cases this
   ·exact L.kin a o (by rw [bP e0,eW hm];exact e)
 ·rcases dm.mp hp with hp|hp
  ·exact hS p hp
  ·exact (off _ (L.offo p hp)).1
end
noncomputable def dO (P:KF) (a b:Addr):KF:=λ x=>match Nat.beq x a||Nat.beq x b with|true=>none|false=>P x
theorem gD {x:Addr}(h1:x≠a) (h2:x≠b):dO P a b x=P x:=by
 unfold dO
 cases q:Nat.beq x a||Nat.beq x b with
 |false=>rfl
 |true=>
  rcases Bool.or_eq_true_iff.mp q with q|q
  ·exact absurd (fW q) h1
  ·exact absurd (fW q) h2
theorem oM:dO P a b a=none:=by unfold dO;rw [Nat.beq_refl];rfl
theorem rM:dO P a b b=none:=by unfold dO;rw [Nat.beq_refl,Bool.or_true]
theorem nV {o p:Obj}(h1:P a=some o) (h2:P b=some p) (hab:a≠b):bN (dO P a b) [(a,o),(b,p)]=P:=by
 funext x
 have nd:(([(a,o),(b,p)]:aq).map (·.1)).Nodup:=by simp [hab]
 by_cases e1:x=a
 ·obtain rfl:=e1.symm;rw [dC nd (o:=o) (.head _),h1]
 ·by_cases e2:x=b
  ·obtain rfl:=e2.symm;rw [dC nd (o:=p) bU,h2]
  ·rw [eW (by simp [e1,e2]),gD e1 e2]
structure hZ (w:World) (P:KF) (pt:Addr) (xs:VA) (pc:Nat→Str×Str):Prop where
 pd:∃ pd v hs tk0 tk1 dn,KP w P pt=some (ax pd xs v)∧KP w P pd=some (d8 hs tk0 0 tk1 dn)∧K0 w pt=none∧K0 w pd=none
 pcs:aZ w P xs pc
variable {xs:VA}{hs:Int}{tk0 tk1:Tok}{v:Nat→Int}
theorem hZ.out {pc:Nat→Str×Str}(h:hZ w P pt xs pc):∃ P0 pd v hs tk0 tk1 dn,bN P0 [(pt,ax pd xs v),(pd,d8 hs tk0 0 tk1 dn)]=P∧pt≠pd∧KP w P0 pt=none∧KP w P0 pd=none∧aZ w P0 xs pc∧
  ∀ a o,KP w P a=some o→a≠pt→a≠pd→KP w P0 a=some o:=by
 obtain ⟨pd,v,hs,tk0,tk1,dn,h1,h2,h3,h4⟩:=h.pd
 have hne:pt≠pd:=λ e=>by obtain rfl:=e.symm;rw [h1] at h2;cases h2
 have keep:∀ a o,KP w P a=some o→a≠pt→a≠pd→KP w (dO P pt pd) a=some o:=λ a o e n1 n2=>by
  rcases eO e with e|⟨e0,e⟩
  ·exact dN e
  ·rw [bP e0,gD n1 n2];exact e
 refine ⟨dO P pt pd,pd,v,hs,tk0,tk1,dn,nV ((bP (P:=P) h3).symm.trans h1) ((bP (P:=P) h4).symm.trans h2) hne,hne,by rw [bP h3,oM],by rw [bP h4,rM],⟨h.pcs.1,λ i hi=>?_⟩,keep⟩
 obtain ⟨q1,q2,u,tf,tq,e1,e2⟩:=h.pcs.2 i hi
 exact ⟨q1,q2,u,tf,tq,e1,keep _ _ e2 (λ e=>by rw [e,h1] at e2;cases e2) (λ e=>by rw [e,h2] at e2;exact absurd (congrArg Obj.cls (bo e2)) (by show ¬ (Value.type "dict"=Value.type "tuple");decide))⟩
theorem Am {o p:Obj}(h:a≠b):(([(a,o),(b,p)]:aq).map (·.1)).Nodup:=by simp [h]
theorem wr {o p:Obj}(h1:K a=none) (h2:K b=none):∀ q∈([(a,o),(b,p)]:aq),K q.1=none:=λ q hq=>by
 rcases bI.mp hq with rfl|hq
 ·exact h1
 ·rw [ci.mp hq];exact h2
noncomputable def uS (w:World) (P:KF) (pt:Addr) (xs:VA) (pc:Nat→Str×Str) (tot:Nat):Sp:=⟨620,2100,false,
 λ c fd=>ew (fI c 50) [(0,λ _=>92)] fd,
 λ c fd=>⟨.call (.ref 50) ⟨[.ref pt,.int (bD (b8 c 1)) (bE (b8 c 1))],[]⟩,[(92,az fd 0)],[],[],
  λ z=>.ok (.ret (.int tot (z 1))),λ z=>[iV (z 0)],λ _=>[],λ _=>[],[al 61 19 (az fd 0),hZ w P pt xs pc,bM (bL pc) xs.size=tot,tot < 6]⟩⟩
theorem ry {pc:Nat→Str×Str}:bO w (KP w P) (uS w P pt xs pc tot):=by
 rintro c fd r rfl hc ho
 refine ⟨λ _=>rfl,λ h g d t os R L hp x=>?_⟩
 have h0:al 61 19 (az fd 0):=ho _ (.head _)
 have h1:hZ w P pt xs pc:=ho _ bU
 have h2:bM (bL pc) xs.size=tot:=ho _ fG
 have h3:tot < 6:=ho _ jX
 obtain ⟨P0,pd,v,hs,tk0,tk1,dn,rfl,hne,k1,k2,hpc,_⟩:=h1.out
 refine Dz h0 hpc h2 h3 R (L.outP (Am hne) (wr k1 k2)) λ h' g' t' ac tk L'=>?_
 exact x (λ i=>match i with|0=>ac|_=>tk) h' _ t' (λ e=>by cases e) L'.intoP
noncomputable def pT (w:World) (P:KF) (pt:Addr) (xs:VA) (pc:Nat→Str×Str) (tot:Nat) (b:Bool):Sp:=⟨620,2100,false,
 λ c fd=>ew (fI c 28) [(0,λ _=>92)] fd,
 λ c fd=>⟨.call (.ref 28) ⟨[.ref pt],[]⟩,[(92,az fd 0)],[],[],
  λ z=>.ok (.ret (.bool b)),λ z=>[iV (z 0)],λ _=>[],λ _=>[],[al 61 19 (az fd 0),hZ w P pt xs pc,bM (bL pc) xs.size=tot,tot < 6,Nat.blt 0 tot=b]⟩⟩
theorem qQ {pc:Nat→Str×Str}{b:Bool}:bO w (KP w P) (pT w P pt xs pc tot b):=by
 rintro c fd r rfl hc ho
 refine ⟨λ _=>rfl,λ h g d t os R L hp x=>?_⟩
 have h0:al 61 19 (az fd 0):=ho _ (.head _)
 have h1:hZ w P pt xs pc:=ho _ bU
 have h2:bM (bL pc) xs.size=tot:=ho _ fG
 have h3:tot < 6:=ho _ jX
 have h4:=ho _ Ae
 subst h4
 obtain ⟨P0,pd,v,hs,tk0,tk1,dn,rfl,hne,k1,k2,hpc,_⟩:=h1.out
 refine B0 h0 hpc h2 h3 R (L.outP (Am hne) (wr k1 k2)) λ h' g' t' ac L'=>?_
 exact x (λ i=>ac) h' _ t' (λ e=>by cases e) L'.intoP
noncomputable def yk (w:World) (P:KF) (pt:Addr) (xs:VA) (pc:Nat→Str×Str) (tot:Nat) (b:Bool):Sp:=⟨620,2100,false,
 λ c fd=>ew (fI c 21) [(0,λ _=>92)] fd,
 λ c fd=>⟨.call (.ref 21) ⟨[.ref pt],[]⟩,[(92,az fd 0)],[],[],
  λ z=>.ok (.ret (.bool b)),λ z=>[iV (z 0)],λ _=>[],λ _=>[],[al 61 19 (az fd 0),hZ w P pt xs pc,bM (bL pc) xs.size=tot,tot < 6,Nat.beq tot 0=b]⟩⟩
theorem vX {pc:Nat→Str×Str}{b:Bool}:bO w (KP w P) (yk w P pt xs pc tot b):=by
 rintro c fd r rfl hc ho
 refine ⟨λ _=>rfl,λ h g d t os R L hp x=>?_⟩
 have h0:al 61 19 (az fd 0):=ho _ (.head _)
 have h1:hZ w P pt xs pc:=ho _ bU
 have h2:bM (bL pc) xs.size=tot:=ho _ fG
 have h3:tot < 6:=ho _ jX
 have h4:=ho _ Ae
 subst h4
 obtain ⟨P0,pd,v,hs,tk0,tk1,dn,rfl,hne,k1,k2,hpc,_⟩:=h1.out
 refine Gu h0 hpc h2 h3 R (L.outP (Am hne) (wr k1 k2)) λ h' g' t' ac tk L'=>?_
 exact x (λ i=>match i with|0=>ac|_=>tk) h' _ t' (λ e=>by cases e) L'.intoP
noncomputable def ah (n:Nat) (v:Nat→Int) (t:Nat→Tok):VA:=((List.range n).map λ i=>Value.int (v i) (t i)).toArray
noncomputable def bk (n:Nat) (v:Nat→Addr):VA:=((List.range n).map λ i=>Value.ref (v i)).toArray
theorem aG {n:Nat}(h:k < n):(ah n v t)[k]?=some (.int (v k) (t k)):=by
 unfold ah;simp [h]
theorem bK {n:Nat}{v:Nat→Addr}(h:k < n):(bk n v)[k]?=some (.ref (v k)):=by
 unfold bk;simp [h]
theorem cW {n:Nat}{x:Value}(h:(ah n v t)[k]?=some x):k < n∧x=.int (v k) (t k):=by
 have h2:k < (ah n v t).size:=(Array.getElem?_eq_some_iff.mp h).1
 have h3:k < n:=by unfold ah at h2;simpa using h2
 rw [aG h3] at h
 exact ⟨h3,(bo h).symm⟩
theorem jo {n:Nat}{v:Nat→Addr}{x:Value}(h:(bk n v)[k]?=some x):k < n∧x=.ref (v k):=by
 have h2:k < (bk n v).size:=(Array.getElem?_eq_some_iff.mp h).1
 have h3:k < n:=by unfold bk at h2;simpa using h2
 rw [bK h3] at h
 exact ⟨h3,(bo h).symm⟩
theorem au {n:Nat}:(ah n v t).size=n:=by unfold ah;simp
theorem eL {n:Nat}{v:Nat→Addr}:(bk n v).size=n:=by unfold bk;simp
noncomputable def oS (k:Nat):Str:=⟨#[97+k]⟩
structure PD where
 N:Addr
 rl:Addr
 nl:Addr
 pl:Addr
 lf:Addr
 lk:Addr
 m:Nat
 rlv:Nat
 nlv:Nat
 plv:Nat
 lkv:Nat
 k3:Tok
 rw:Nat→Addr
 pt:Nat→Addr
 rv:Nat→Nat
 nt:Nat→Tok
 qs:Nat→List Q3
 lo:Nat→Nat
 tl:Nat→Tok
 lA:VA
 d:Nat→Nat
variable {D:PD}
section
noncomputable abbrev PD.n (D:PD):Nat:=D.m+1
noncomputable def PD.na (D:PD) (k:Nat):Nat:=ia (D.lo k)
noncomputable def PD.row (D:PD) (k:Nat):VA:=iZ (D.qs k)
noncomputable def PD.pts (D:PD) (l:Nat→Nat) (k:Nat):VA:=((D.row k).toList.take (D.na k+l k)).toArray
noncomputable def PD.pc (D:PD) (k:Nat):Nat→Str×Str:=jZ ((D.lo k:Int).fmod 2==1) (D.lo k) (oS k)
noncomputable def PD.nA (D:PD):VA:=ah D.n (λ k=>(D.na k:Int)) D.nt
structure c7 (w:World) (P:KF) (D:PD):Prop where
 n56:D.m=4∨D.m=5
 c2:KP w P (D.N+2)=some (ak (.ref D.lk))
 c3:KP w P (D.N+3)=some (ak (.ref D.rl))
 c4:KP w P (D.N+4)=some (ak (.ref D.nl))
 c5:KP w P (D.N+5)=some (ak (.ref D.pl))
 c6:KP w P (D.N+6)=some (ak (.ref D.lf))
 c12:KP w P (D.N+12)=some (ak (.int D.n D.k3))
 lk:KP w P D.lk=some (ab D.lA D.lkv)
 rl:KP w P D.rl=some (ab (bk D.n D.rw) D.rlv)
 nl:KP w P D.nl=some (ab D.nA D.nlv)
 pl:KP w P D.pl=some (ab (bk D.n D.pt) D.plv)
 row:∀ k,k < D.n→KP w P (D.rw k)=some (ab (D.row k) (D.rv k))
 pcs:∀ k,k < D.n→aZ w P (D.row k) (D.pc k)
 len:∀ k,k < D.n→(D.qs k).length=D.d k+D.na k
 d6:∀ k,k < D.n→D.d k < 6
 look:∀ k,k≤D.n→D.lA[k]?=some (.int (D.lo k) (D.tl k))
 lo9:∀ k,D.lo k < 10 ^ 9
structure kQ (w:World) (P:KF) (D:PD) (l:Nat→Nat):Prop where
 pt:∀ k,k < D.n→hZ w P (D.pt k) (D.pts l k) (D.pc k)
 tot:∀ k,k < D.n→bM (bL (D.pc k)) (D.pts l k).size=l k
 l6:∀ k,k < D.n→l k < 6
theorem jA (ac:Addr):al 61 19 (iV ac):=.inr ⟨ac,rfl⟩
noncomputable def aQ (N:Addr):Env:={ scope:=fS (st 13),locals:=N,globals:=3,cells:=[("turned",N+14),("number",N+13),("count",N+12),("taken",N+11),("bare",N+10),("full",N+9),("kept",N+8),("turn",N+7),("left",N+6),("points",N+5),("nails",N+4),("rows",N+3),("looks",N+2),("degrees",N+1)],qual:="_law_paired.<locals>.",func:=some 154,code:=.ref 153,frame:=some N,builtins:=0 }
noncomputable def m6:Stmt→PySem.Expr
 |.For t _ _ _ _=>t
 |_=>default
noncomputable def bA:Stmt→List Stmt
 |.For _ _ b _ _=>b
 |_=>[]
noncomputable def ng:Stmt→List Stmt
 |.For _ _ _ o _=>o
 |_=>[]
noncomputable def i7:Stmt:=fe (fB (st 13)) 6
noncomputable def ch (N it:Addr):Code:=.forLoop (m6 i7) (.ref it) (bA i7) (ng i7) (aQ N)
noncomputable def iN (i:Nat):Stmt:=fe (bA i7) i
noncomputable def cO:Stmt→PySem.Expr
 |.If t _ _ _=>t
 |_=>default
noncomputable def sP:PySem.Expr→PySem.Expr
 |.Compare l _ _ _=>l
 |_=>default
noncomputable def mJ:PySem.Expr→PySem.Expr
 |.Compare _ _ (r::_) _=>r
 |_=>default
noncomputable def qU (i:Nat):PySem.Expr→PySem.Expr
 |.BoolOp _ l _=>l.getD i default
 |_=>default
noncomputable def wJ (D:PD) (l:Nat→Nat) (xs:VA):Prop:=∃ t,xs=ah D.n (λ k=>(l k:Int)) t
theorem EX (hD:c7 w P D) (hk:k < D.n):(D.row k).size≤1000:=(hD.pcs k hk).1
section
variable {cs:List (dQ w P)}{pf old:aq}{F:List Addr}{n:Nat}
theorem aC (A₀:Around) (sel:List Nat) (k:Nat) (tl:aq) {vl:Bool}(v:World→dK) (hw:(v w)=⟨vc₁,vl,vh,vo,vb⟩) (e:(r.V.toRF,r.old,r.eqs,r.gl.all GenState.bare,r.loopV A₀ sel k)=((vc w P cs pf old H F n t₀ gg d os R).toRF,old,dup r.eqs,true,(dK.mk vc₁ vl vh vo vb).x tl)) (nd:sel.Nodup) (hF:F=(vo.take F.length).map (·.1)) (hle:vl=true) (hh:vh=A₀.handled) (hf:A₀.frames=none) (hg:A₀.guards=none) (ho:∀ y∈vb,y)
 (x:∀ h (g:BG) t,ag (KP w P) H h F (vo++tl) old→codeAny (model pg w) A₀ vc₁ R ⟨h,g,d,t,os⟩):r.FineOf (vc w P cs pf old H F n t₀ gg d os R):=m9 A₀ sel k tl ⟨vc₁,vl,vh,vo,vb⟩ rfl e nd hF hle hh hf hg ho x
theorem ba (sel:List Nat) (k:Nat) (tl:aq) (v:World→cI) (hw:(v w)=⟨vf,vo,vb⟩) (e:(r.V.toRF,r.old,r.eqs,r.gl.all GenState.bare,r.doneV sel k)=((vc w P cs pf old H F n t₀ gg d os R).toRF,old,dup r.eqs,true,(cI.mk vf vo vb).x tl)) (nd:sel.Nodup) (hF:∀ a∈F,a∈(vo++tl).map (·.1)) (ho:∀ y∈vb,y)
 (x:∀ h (g:BG) t,ag (KP w P) H h F (vo++tl) old→R vf ⟨h,g,d,t,os⟩):r.FineOf (vc w P cs pf old H F n t₀ gg d os R):=iP sel k tl ⟨vf,vo,vb⟩ rfl e nd hF ho x
theorem eC (A₀:Around) (sel:List Nat) (k:Nat) (tl:aq) {vl:Bool}{vg:Option (List Env)}(v:World→lD) (hw:(v w)=⟨vc₁,vl,vh,vg,vo,vb⟩) (e:(r.V.toRF,r.old,r.eqs,r.gl.all GenState.bare,r.waitF A₀ sel k)=((vc w P cs pf old H F n t₀ gg d os R).toRF,old,dup r.eqs,true,(lD.mk vc₁ vl vh vg vo vb).x tl)) (nd:sel.Nodup) (hF:∀ a∈F,a∈(vo++tl).map (·.1)) (hle:vl=true) (hh:vh=A₀.handled) (hf:A₀.frames=vg) (hg:A₀.guards=none) (ho:∀ y∈vb,y)
 (x:∀ h (g:BG) t,ag (KP w P) H h F (vo++tl) old→∀ rr,ER rr r→codeAny (model pg w) A₀ vc₁ (Do w R rr) ⟨h,g,d,t,os⟩):r.FineOf (vc w P cs pf old H F n t₀ gg d os R):=sJ A₀ sel k tl ⟨vc₁,vl,vh,vg,vo,vb⟩ rfl e nd hF hle hh hf hg ho x
end
end
variable {qs:List Q3}
noncomputable def sK (a b:Int) (v:Bool):dQ w P:=⟨sk "int.__gt__" (fF λ a' b'=>⟨.v (.bool v),[.v (.int a' 0) (.int a 0),.v (.int b' 0) (.int b 0)],[decide (a > b)=v]⟩),
 eA w P (F.slot_int_gt).plain F.entry_int_gt _ λ as r h hq hp=>by
  obtain ⟨a',t,b',u,rfl,rfl⟩:=de h
  have e1:a'=a:=(Value.int.inj (hq _ (.head _))).1
  have e2:b'=b:=(Value.int.inj (hq _ bU)).1
  have h1:decide (a > b)=v:=hp _ (.head _)
  subst e1 e2 h1
  exact AutoIntG4.int___gt___int_int_0 a' t b' u⟩
noncomputable def b6 (n:Nat) (b:Nat→Bool):VA:=((List.range n).map λ i=>Value.bool (b i)).toArray
theorem fM {n:Nat}{b:Nat→Bool}(h:k < n):(b6 n b)[k]?=some (.bool (b k)):=by
 unfold b6;simp [h]
theorem It {n:Nat}{b:Bool}(h:Nat.blt 0 n=b):decide ((n:Int) > 0)=b:=by
 subst h
 induction n with
 |zero=>rfl
 |succ n=>
  have h1:((n+1:Nat):Int) > 0:=by lia
  have h2:Nat.blt 0 (n+1)=true:=mV (by lia)
  rw [h2];exact decide_eq_true h1
theorem Il {n:Nat}{b:Bool}(h:Nat.beq n 0=b):((n:Int)==0)=b:=by
 subst h
 induction n with
 |zero=>rfl
 |succ n=>
  have h1:¬ ((n+1:Nat):Int)=0:=by lia
  have h2:Nat.beq (n+1) 0=false:=rfl
  rw [h2];exact beq_eq_false_iff_ne.mpr h1
theorem tT {b:Nat→Bool}(h:b i=true) (q:Q3) (ys:VA):kU b i q ys=ys.push (.int (i:Int) q.1):=by unfold kU;rw [h]
theorem tz {b:Nat→Bool}(h:b i=false) (q:Q3) (ys:VA):kU b i q ys=ys:=by unfold kU;rw [h]
theorem xH (b:Nat→Bool) (i:Nat) (q:Q3) (ys:VA):(kU b i q ys).size≤ys.size+1:=by
 cases h:b i
 ·rw [tz h];lia
 ·rw [tT h];simp
section
end
section
open PySem.SeqAt
section
variable {A:Around}
theorem Ie {n:Nat}(h:s.heap.get? a=some (ab xs n)):s.heap.IsList a xs:=⟨_,h,rfl,n,rfl⟩
theorem Iy {n:Nat}(h:s.heap.get? a=some (aU xs n)):s.heap.IsTuple a xs:=⟨_,h,rfl,n,rfl⟩
theorem jK (n:Nat):(List.range n).all (λ _=>true)=true:=by simp
theorem ru {n:Nat}(hu:A.units < cLine) (h1:s.heap.get? a=some (ab xs n)) (h2:s.heap.get? b=some (ab xs m)):EqAt A s (.ref a) (.ref b) true:=by
 by_cases e:a=b
 ·subst e;exact .same _
 ·have z:=EqAt.of_refs e (RcAt.lists (e:=λ _=>true) (A:=A) (Ie h1) (Ie h2) rfl hu λ j k1 k2=>.same _)
  rw [jK] at z;exact z
theorem qA {n:Nat}(hu:A.units < cLine) (h1:s.heap.get? a=some (aU xs n)) (h2:s.heap.get? b=some (aU xs m)):EqAt A s (.ref a) (.ref b) true:=by
 by_cases e:a=b
 ·subst e;exact .same _
 ·have z:=EqAt.of_refs e (RcAt.tuples (e:=λ _=>true) (A:=A) (Iy h1) (Iy h2) hu λ j k1 k2=>.same _)
  rw [jK] at z
  simpa using z
theorem Bu {n:Nat}(h1:s.heap.get? a=some (ab xs n)) (h2:s.heap.get? b=some (ab ys m)) (hsz:xs.size=ys.size)
  (he:∀ j (k1:j < xs.size) (k2:j < ys.size),EqAt A.in1 s xs[j] ys[j] true) (hR:R (.ok (.ret (.bool false))) s):codeAny (model pg w) A (.builtin "list.__ne__" ⟨[.ref a,.ref b],[]⟩) R s:=by
 refine bw gO F.entry_list_ne (list_neAt a b _ _ _ _ none none #[] #[] hsz (λ _=>true)) ⟨h1,h2,he,?_⟩
 rw [jK];exact hR
end
theorem CJ {fm:kJ}(hj:j < qs.length) (h:p∈fm j qs[j]):p∈ec fm qs:=by
 unfold ec
 refine List.mem_flatten.mpr ⟨fm j qs[j],List.mem_reverse.mpr (List.mem_mapIdx.mpr ⟨j,hj,rfl⟩),h⟩
theorem tF {val:Nat→Q3→Value}:(cn (ca val) qs).size=qs.length:=by rw [nK];simp
end
structure Fi where
 t:Str
 q:List E2
 p:List Prop
noncomputable def G8 (id:String) (f:List Value→Option Fi):Ct:=⟨oW,oW,true,λ c l e=>Fh id c λ as=>match f as with
 |some r=>.ok ⟨λ z=>.ok (.ret (.str r.t (z 0))),λ _=>e.own,r.q,r.p⟩
 |none=>.no⟩
theorem Af (w:World) (P:KF) {id:String}{B:Builtin}(hp:plainId id=true) (hb:entryFor table id=some B) (f:List Value→Option Fi)
  (g:∀ as r,f as=some r→(∀ y∈r.q,y.holds)→(∀ y∈r.p,y)→∃ m,Gives (B ⟨as,[]⟩) m∧((m=.str r.t∧r.t.length≤100000)∨∃ u,m=.val (.str r.t u))):cT pg w (KP w P) (G8 id f):=by
 intro c l e r hr hq ho H F' h gs d t os R L hpf x
 dsimp only [G8] at hr
 obtain ⟨as,rfl,hr2⟩:=rh hr
 replace hr:=hr2
 clear hr2
 split at hr
 ·rename_i r' hf
  cases hr
  obtain ⟨m,z,hm⟩:=g as r' hf hq ho
  refine dt hb ?_
  rw [i0 hp]
  refine z pg w _ R _ ?_
  have y:=λ t' k=>x (λ _=>k) h gs t' (λ _=>rfl) L
  rcases hm with ⟨rfl,h1⟩|⟨u,rfl⟩
  ·exact ⟨cP h1 (by unfold sizeLine;lia),y _ _⟩
  ·exact y _ u
 ·cases hr
noncomputable def sI (k:Str→Fi) (as:List Value):Option Fi:=match as with
 |[p]=>match p with
  |.str x _=>some (k x)
  |_=>none
 |_=>none
theorem wC {k:Str→Fi}{r:Fi}(h:sI k as=some r):∃ x t,as=[.str x t]∧k x=r:=by
 unfold sI at h
 split at h
 ·split at h
  ·exact ⟨_,_,rfl,bo h⟩
  ·cases h
 ·cases h
noncomputable def lT (k:Str→Str→β) (as:List Value):Option β:=match as with
 |[p,q]=>match p with
  |.str x _=>match q with
   |.str y _=>some (k x y)
   |_=>none
  |_=>none
 |_=>none
theorem j6 {k:Str→Str→β}{r:β}(h:lT k as=some r):∃ x t y u,as=[.str x t,.str y u]∧k x y=r:=by
 unfold lT at h
 split at h
 ·split at h
  ·split at h
   ·exact ⟨_,_,_,_,rfl,bo h⟩
   ·cases h
  ·cases h
 ·cases h
theorem Gn {x:Str}(h:(x.length==0)=true):x.cps=#[]:=by
 have:x.cps.size=0:=by simpa [Str.length] using h
 exact Array.eq_empty_of_size_eq_zero this
theorem sV (x y:Str):Builtin.Str.glued "" [x,y]=⟨x.cps++y.cps⟩:=by
 unfold Builtin.Str.glued
 have:("":Str).cps=#[]:=rfl
 simp [this]
noncomputable def GH:dQ w P:=⟨G8 "str.__add__" (lT λ x y=>⟨Builtin.Str.glued "" [x,y],[],[x.length+y.length≤1000]⟩),
 Af w P (F.slot_str_add).plain F.entry_str_add _ λ as r h hq hp=>by
  obtain ⟨x,t,y,u,rfl,rfl⟩:=j6 h
  have h1:x.length+y.length≤1000:=hp _ (.head _)
  refine ⟨_,gives_str_add x y t u,?_⟩
  dsimp only
  rw [sV]
  split
  ·rename_i hx
   refine .inr ⟨u,?_⟩
   rw [Gn hx];simp
  ·split
   ·rename_i hy
    refine .inr ⟨t,?_⟩
    rw [Gn hy];simp
   ·refine .inl ⟨rfl,?_⟩
    show (x.cps++y.cps).size≤100000
    have e1:x.length=x.cps.size:=rfl
    have e2:y.length=y.cps.size:=rfl
    rw [Array.size_append];lia⟩
noncomputable def d4 (x:Str):Str:=if stripSame Unicode.isSpace true true x then x else PySem.stripped Unicode.isSpace true true x
noncomputable def DZ (x out:Str):dQ w P:=⟨G8 "str.strip" (sI λ x'=>⟨out,[.v (.str x' 0) (.str x 0)],[d4 x=out,out.length≤1000]⟩),
 Af w P (F.slot_str_strip).plain F.entry_str_strip _ λ as r h hq hp=>by
  obtain ⟨x',t,rfl,rfl⟩:=wC h
  have e1:x'=x:=(Value.str.inj (hq _ (.head _))).1
  have h1:d4 x=out:=hp _ (.head _)
  have h2:out.length≤1000:=hp _ bU
  subst e1 h1
  refine ⟨_,gives_str_strip x' t,?_⟩
  dsimp only at h2⊢
  unfold d4 at h2⊢
  split
  ·exact .inr ⟨t,rfl⟩
  ·rename_i hh
   rw [if_neg hh] at h2
   exact .inl ⟨rfl,by lia⟩⟩
noncomputable def EC (x y:Str) (v:Bool):dQ w P:=⟨sk "str.__eq__" (lT λ x' y'=>(⟨.v (.bool v),[.v (.str x' 0) (.str x 0),.v (.str y' 0) (.str y 0)],[(x.cps.toList==y.cps.toList)=v]⟩:Ds)),
 eA w P (F.slot_str_eq).plain F.entry_str_eq _ λ as r h hq hp=>by
  obtain ⟨x',t,y',u,rfl,rfl⟩:=j6 h
  have e1:x'=x:=(Value.str.inj (hq _ (.head _))).1
  have e2:y'=y:=(Value.str.inj (hq _ bU)).1
  have h1:=hp _ (.head _)
  subst e1 e2 h1
  exact gives_str_eq x' y' t u⟩
noncomputable def EZ (x y:Str) (v:Bool):dQ w P:=⟨sk "str.__ne__" (lT λ x' y'=>(⟨.v (.bool v),[.v (.str x' 0) (.str x 0),.v (.str y' 0) (.str y 0)],[(x.cps.toList !=y.cps.toList)=v]⟩:Ds)),
 eA w P (F.slot_str_ne).plain F.entry_str_ne _ λ as r h hq hp=>by
  obtain ⟨x',t,y',u,rfl,rfl⟩:=j6 h
  have e1:x'=x:=(Value.str.inj (hq _ (.head _))).1
  have e2:y'=y:=(Value.str.inj (hq _ bU)).1
  have h1:=hp _ (.head _)
  subst e1 e2 h1
  exact gives_str_ne x' y' t u⟩
noncomputable def y9 (txs:List Str) (out:Str) (as:List Value) (l:List Nat) (e:LE):wX "str.join" as e:=match as with
 |[p,q]=>match p with
  |.str s ts=>match q with
   |.ref a=>cH e l a λ j a' o l' hi=>jz ⟨λ z=>.ok (.ret (.str out (z 0))),λ _=>e.own,
    [.v (.ref a) (.ref a'),.o o (ab (ad o) (ao o))],[Builtin.Str.glued s txs=out,∃ l:List (Str×Tok),ad o=(strValues l).toArray∧l.map (·.1)=txs,JoinOk s txs=true]⟩ λ w P hq ho H F' h g d t os R L hp x=>by
    have e1:a=a':=bz (hq _ (.head _))
    have e2:o=ab (ad o) (ao o):=hq _ bU
    obtain ⟨ll,e3,e4⟩:∃ l:List (Str×Tok),ad o=(strValues l).toArray∧l.map (·.1)=txs:=ho _ bU
    have hf:JoinOk s txs=true:=ho _ fG
    have eo:Builtin.Str.glued s txs=out:=ho _ (.head _)
    subst eo
    subst e1
    have hh:=LE.get L hp hi
    rw [e2,e3] at hh
    have fit:Builtin.Str.tooLong ((ll.map (·.1)).toArray.foldl (·+·.length+s.length) 0)=false:=by
     rw [e4];unfold JoinOk at hf;simpa using hf
    refine codeAny_call_builtin F.slot_str_join.plain F.entry_str_join (F.slot_str_join.check _ _ _ _ _ _ _ _ (typeIs_str _ _ _) (F.args_str_join_2 _ _) ?_)
    obtain ⟨other,et⟩:=PySem.join_tree s ts a
    rw [et]
    have hT:(⟨h,g,d,t,os⟩:Shared).TypeIs (.ref a) "list":=⟨_,hh,rfl⟩
    refine af (wpAny_typeOf hT ?_)
    rw [if_pos (by decide)]
    refine af (wpAny_seqItems hh rfl ?_)
    have fin:∀ tk t2,R (.ok (.ret (.str (Builtin.Str.glued s txs) tk))) ⟨h,g,d,t2,os⟩:=λ tk t2=>x (λ _=>tk) h g t2 (λ _=>rfl) L
    have gv:=PySem.gives_joinTail s ll fit
    have len:=joinFit_length fit
    refine gv pg w _ R _ ?_
    clear gv e3 hh hT
    match ll,fit,e4,len with
    |[],fit,eT,len=>rw [eT];exact ⟨eT▸len,fin _ _⟩
    |[p],fit,eT,len=>
     have:p.1=Builtin.Str.glued s txs:=by rw [←eT];rfl
     show R (.ok (.ret (.str p.1 p.2))) _
     rw [this];exact fin _ _
    |p::q::r,fit,eT,len=>rw [eT];exact ⟨eT▸len,fin _ _⟩
   |_=>cG
  |_=>cG
 |_=>cG
noncomputable def ux (txs:List Str) (out:Str):Ct:=ff "str.join" (y9 txs out)
theorem sd (w:World) (P:KF) (txs:List Str) (out:Str):cT pg w (KP w P) (ux txs out):=cw _ w P
noncomputable abbrev DD (txs:List Str) (out:Str):dQ w P:=⟨ux txs out,sd w P txs out⟩
theorem rf {A:Around}(hA:Ar A AE) {o:Obj}{it acc gf ls:Addr}{old:aq}{F:List Addr}(Jp:Nat→List (Str×Tok×Value)→Prop) (em:kM) (hem:∀ i q ys,(em i q ys).size≤ys.size+1) (he:e=iU e) (hk:A4 w P old ls o xs) (J0:Jp 0 [])
  (L:ag (KP w P) H hh F [(it,cr ls ((0:Nat):Int)),(acc,ab #[] an),(gf,aJ w [] fn)] old)
  (iX:∀ (i:Nat) v,xs[i]?=some v→∀ ys an fn js h (g:BG) t,ys.size≤i→Jp i js→ag (KP w P) H h F [(it,cr ls i),(acc,ab ys an),(gf,aJ w js fn)] old→
   (∀ h' (g':BG) t' q an' fn' js',Jp (i+1) js'→ag (KP w P) H h' F [(it,cr ls (i+1:Nat)),(acc,ab (em i q ys) an'),(gf,aJ w js' fn')] old→
    codeAny (model pg w) A (.compLoop e 0 (.ref it) (.ref acc) env) R ⟨h',g',dr,t',os⟩)→codeAny (model pg w) A (.compLoop e 0 (.ref it) (.ref acc) env) R ⟨h,g,dr,t,os⟩)
  (fin:∀ h' (g':BG) t' qs an fn js,qs.length=xs.size→Jp xs.size js→ag (KP w P) H h' F [(it,jW xs.size),(acc,ab (cn em qs) an),(gf,aJ w js fn)] old→R (.ok .next) ⟨h',g',dr,t',os⟩):
  codeAny (model pg w) A (.compStart e 0 (.ref it) (.ref acc) env) R ⟨hh,gg,dr,tt,os⟩:=by
 have main:∀ k i,i+k=xs.size→∀ qs an fn js h (g:BG) t,qs.length=i→Jp i js→ag (KP w P) H h F [(it,cr ls i),(acc,ab (cn em qs) an),(gf,aJ w js fn)] old→
   codeAny (model pg w) A (.compLoop e 0 (.ref it) (.ref acc) env) R ⟨h,g,dr,t,os⟩:=by
  intro k
  induction k with
  |zero=>
   intro i hi qs an fn js h g t hq hj L
   have:i=xs.size:=by lia
   subst this
   rw [he]
   exact aM hA (jw R hk L λ h' g' t' L'=>fin h' g' t' qs an fn js hq hj L')
  |succ k ih=>
   intro i hi qs an fn js h g t hq hj L
   subst hq
   exact iX qs.length xs[qs.length] (by simp) _ an fn js h g t (lB hem qs) hj L λ h' g' t' q an' fn' js' hj' L'=>by
    rw [←fN em qs q] at L'
    exact ih (qs.length+1) (by lia) (qs++[q]) an' fn' js' h' g' t' (by simp) hj' L'
 rw [he]
 refine i3 R (i:=0) (L.ownAt 0 _ _ rfl) ?_
 show codeAny _ _ (.compLoop (iU e) 0 _ _ env) _ _
 rw [←he]
 exact main xs.size 0 (by lia) [] an fn [] hh gg tt rfl J0 L
section
variable {A:Around}{n:Nat}
theorem s8 {o:Obj}{e:LE}(hi:e.at i=some (a',o)):sW (.call (.builtin "len") ⟨[.ref a],[]⟩) e ⟨λ z=>.ok (.ret (.int ((ad o).size:Int) (z 0))),λ _=>e.own,[.v (.ref a) (.ref a'),.o o (ab (ad o) (ao o))],[(ad o).size≤1000]⟩:=λ w P hq ho H F' h g d t os R L hp x=>by
 rw [bz (hq _ (.head _))]
 have e3:(ad o).size≤1000:=ho _ (.head _)
 have hh:=(LE.get L hp hi).trans (congrArg some (hq _ bU))
 have hR:=x (λ _=>t+1) h g (t+2) (λ _=>rfl) L
 clear hq ho hp x L hi
 revert e3 hh hR
 generalize ad o=xs
 generalize ao o=v
 intro e3 hh hR
 have hT:(⟨h,g,d,t,os⟩:Shared).TypeIs (.ref a') "list":=⟨_,hh,rfl⟩
 refine my kind_len plain_len entry_len (args_len1 _) ?_
 unfold Builtin.«len»
 refine af (m:=oneArg "len" _) (aA ?_)
 refine af (m:=callSpecial? (.ref a') (Str.ofString "__len__")) (wpAny_callSpecial?_slot (name:=Str.ofString "__len__") hT slot_list_len
  (wpAny_call_entry slot_list_len hT entry_list_len ?_ (args_list_len _)))
 ·show wpAny _ _ (do retInt (←seqSize a')) _ _ _
  unfold seqSize
  refine af (af (wpAny_load hh ?_))
  refine aA (af (wpAny_mkInt (aA ⟨_,rfl,?_⟩)))
  refine af (wpAny_holding (aA ?_))
  refine af (wpAny_letGo ?_)
  show wpAny _ _ (if ((xs.size:Nat):Int) < 0 then _ else _) _ _ _
  rw [if_neg (by lia)]
  show wpAny _ _ (if ((xs.size:Nat):Int)≥2 ^ 63 then _ else _) _ _ _
  rw [if_neg (by lia)]
  exact af (wpAny_mkInt (aA ⟨_,rfl,hR⟩))
noncomputable def BZ (as:List Value) (l:List Nat) (e:LE):wX "len" as e:=match as with
 |[p]=>match p with
  |.ref a=>cH e l a λ i a' o _ hi=>jz _ (s8 hi)
  |_=>cG
 |_=>cG
noncomputable def xk:Ct:=ff "len" BZ
theorem wV (w:World) (P:KF):cT pg w (KP w P) xk:=cw _ w P
noncomputable abbrev CT:dQ w P:=⟨xk,wV w P⟩
theorem EU {pc:Nat→Str×Str}(ho:al 61 19 o92) (hp:aZ w P xs pc) (ht:bM (bL pc) xs.size=tot) (h6:tot < 6) (R:RP)
  (L:ag (KP w P) hh hh [92] [(92,o92)] [(pp,ax dd xs n),(dd,d8 hs tk0 0 tk1 dn)])
  (hR:∀ h' (g':BG) t' ac (tk:Tok),ag (KP w P) hh h' [92] [(92,iV ac)] [(pp,ax dd xs n),(dd,d8 hs tk0 0 tk1 dn)]→R (.ok (.ret (.int tot tk))) ⟨h',g',dr,t',os⟩):
  codeAny (model pg w) AO (.call (.builtin "len") ⟨[.ref pp],[]⟩) R ⟨hh,gg,dr,tt,os⟩:=by
 obtain ⟨N,hN⟩:=bd hh
 obtain ⟨w,c,rfl⟩:=cB w
 refine dv [c0 (mE _ P pc tot) gu] am [.e,aD,.k,.k,.k,.k,.c 0 [0,1000,1001]] L hN λ ps=>?_
 refine ba [0] 1000 [] (λ W=>⟨.ok (.ret (.int tot ((ps 0).4))),[(92,mP 61 19 ((ps 0).6 1))],[al (61:Int) (19:Int) o92,aZ W P xs pc,bM (bL pc) xs.size=tot]⟩) rfl (by apply G9 6 h6 c;kernel_rfl) (by decide) (λ a ha=>ha) (aa ho (aa hp (aa ht ae))) λ h3 g3 t3 L3=>?_
 exact hR h3 g3 t3 _ _ L3
noncomputable def xB (w:World) (P:KF) (pc:Nat→Str×Str) (tot:Nat):Sp:=⟨640,2200,false,
 λ c fd=>match c with
  |.call v _=>match v with
   |.builtin i=>if i="len" then ew true [(0,λ _=>92),(1,λ _=>mB c 0),(1,λ fd=>jS (az fd 1))] fd else none
   |_=>none
  |_=>none,
 λ c fd=>⟨.call (.builtin "len") ⟨[.ref (aT fd 1)],[]⟩,[(92,az fd 0)],[(aT fd 1,ax (aT fd 2) (ad (az fd 1)) (ao (az fd 1))),(aT fd 2,Dp (az fd 2) 0)],[],
  λ z=>.ok (.ret (.int tot (z 1))),λ z=>[iV (z 0)],λ _=>[],λ _=>[],[al 61 19 (az fd 0),aZ w P (ad (az fd 1)) pc,bM (bL pc) (ad (az fd 1)).size=tot,tot < 6]⟩⟩
theorem wL {pc:Nat→Str×Str}:bO w (KP w P) (xB w P pc tot):=by
 rintro c fd r rfl hc ho
 refine ⟨λ _=>rfl,λ h g d t os R L hp x=>?_⟩
 have h0:al 61 19 (az fd 0):=ho _ (.head _)
 have h1:aZ w P (ad (az fd 1)) pc:=ho _ bU
 have h2:bM (bL pc) (ad (az fd 1)).size=tot:=ho _ fG
 have h3:tot < 6:=ho _ jX
 refine EU h0 h1 h2 h3 R L λ h' g' t' ac tk L'=>?_
 exact x (λ i=>match i with|0=>ac|_=>tk) h' _ t' (λ e=>by cases e) L'
end
section
@[irreducible] noncomputable def Et (V:RV) (hs:List Hn) (A:Around) (c:Code) (t:Sem PySem.Fin) (own old:aq) (ps:Ps):RS:=Bn 1000000 V ps hs A c none false t .base own old 0 0 [] [] []
theorem D7 (O:V.toRF.Ok) (hs:List Hn) (j:Nat) {A:Around}{t:Sem PySem.Fin}(ha:V.alt j c=some t) (hd:(A.under c).depth < recursionLimit) (hu:(A.under c).units < cLine) {own old:aq}(L:ag V.K V.H h V.F own old) (hn:h.objs.size=V.n)
  (x:∀ ps,(Et V hs A c t own old ps).FineOf V):codeAny (model V.prog V.w) A c V.R ⟨h,V.gg,V.d,V.t₀,V.os⟩:=by
 have G:Gd V own old 0 h:=⟨L,hn⟩
 unfold Et at x
 have z:=(fx 1000000 V O hs A c none false t .base own old 0 0 [] [] []).2 x h G
 unfold sh at z
 rw [dy] at z
 refine y_code _ _ _ _ _ _ ?_
 exact O.alt j c t ha A hd hu _ _ _ z
theorem xT {pf old:aq}{F:List Addr}{n:Nat}(cs:List (dQ w P)) (hp:∀ p∈pf,KP w P p.1=some p.2) (hs:List Hn) (j:Nat) {A:Around}{t:Sem PySem.Fin}(ha:Dw j c=some t) (hd:(A.under c).depth < recursionLimit) (hu:(A.under c).units < cLine) {own:aq}(L:ag (KP w P) H h F own old) (hn:h.objs.size=n)
 (x:∀ ps,(Et (vc w P cs pf old H F n t₀ gg d os R) hs A c t own old ps).FineOf (vc w P cs pf old H F n t₀ gg d os R)):codeAny (model pg w) A c R ⟨h,gg.1,d,t₀,os⟩:=D7 (cR hp) hs j ha hd hu L hn x
end
noncomputable abbrev AQ (l:List Env):Around:=⟨none,584,some l,none,1908⟩
noncomputable abbrev AZ (l:List Env):Around:=⟨none,590,some l,none,1930⟩
noncomputable abbrev aF (v:Option Value):Obj:=⟨.type "cell",none,.cell v,#[]⟩
theorem n7 (z:Nat→Nat) (n:Nat):(aw z n).length=n:=by simp [aw]
theorem dB (v:Nat→Int) (z:Nat→Nat) (n:Nat):∃ t,cn (ca λ i q=>.int (v i) q.1) (aw z n)=ah n v t:=by
 refine ⟨λ i=>((aw z n).getD i default).1,?_⟩
 rw [nK]
 unfold ah
 congr 1
 apply du
 ·simp [n7]
 ·intro i h1 h2
  have h3:i < (aw z n).length:=by simpa using h1
  simp [h3]
theorem lO (b:Nat→Bool) (z:Nat→Nat) (n:Nat):cn (ca λ i q=>.bool (b i)) (aw z n)=b6 n b:=by
 rw [nK]
 unfold b6
 congr 1
 apply du
 ·simp [n7]
 ·intro i h1 h2;simp
theorem jr (fm:kJ) (z:Nat→Nat) (n:Nat):∃ (f v:Nat→Nat),cn (ca λ i q=>.ref q.1) (aw z n)=bk n f∧∀ j,j < n→∃ q:Q3,q.1=f j∧q.2.1=v j∧∀ p∈fm j q,p∈ec fm (aw z n):=by
 refine ⟨λ i=>((aw z n).getD i default).1,λ i=>((aw z n).getD i default).2.1,?_,λ j hj=>?_⟩
 ·rw [nK]
  unfold bk
  congr 1
  apply du
  ·simp [n7]
  ·intro i h1 h2
   have h3:i < (aw z n).length:=by simpa using h1
   simp [h3]
 ·have h3:j < (aw z n).length:=by rw [n7];exact hj
  refine ⟨(aw z n)[j],?_,?_,λ p hp=>CJ h3 hp⟩
  ·simp [h3]
  ·simp [h3]
theorem BS (D:PD) (l:Nat→Nat) (z:Nat→Nat):wJ D l (cn (ca λ i q=>.int (l i:Int) q.1) (aw z D.n)):=by
 obtain ⟨t,e⟩:=dB (λ k=>(l k:Int)) z D.n
 exact ⟨t,e⟩
section
theorem b0 {o:Obj}(hS:∀ p∈S,KP w P p.1=none) (h:KP w P a=some o):KP w (bN P S) a=some o:=by
 have hn:a∉S.map (·.1):=λ hm=>by
  obtain ⟨p,hp,rfl⟩:=aY.mp hm
  rw [hS p hp] at h;cases h
 rcases eO h with e|⟨e0,e⟩
 ·exact dN e
 ·rw [bP e0,eW hn];exact e
theorem cy {o:Obj}(nd:(S.map (·.1)).Nodup) (hS:∀ p∈S,KP w P p.1=none) (h:(a,o)∈S):KP w (bN P S) a=some o:=by
 rw [bP (eJ (hS _ h)),dC nd h]
theorem aZ.add (hS:∀ p∈S,KP w P p.1=none) {pc:Nat→Str×Str}(h:aZ w P xs pc):aZ w (bN P S) xs pc:=
 ⟨h.1,λ i hi=>by obtain ⟨h1,h2,u,tf,tq,e1,e2⟩:=h.2 i hi;exact ⟨h1,h2,u,tf,tq,e1,b0 hS e2⟩⟩
theorem c7.add (hS:∀ p∈S,KP w P p.1=none) (h:c7 w P D):c7 w (bN P S) D:=
 ⟨h.n56,b0 hS h.c2,b0 hS h.c3,b0 hS h.c4,b0 hS h.c5,b0 hS h.c6,b0 hS h.c12,b0 hS h.lk,b0 hS h.rl,b0 hS h.nl,b0 hS h.pl,λ k hk=>b0 hS (h.row k hk),λ k hk=>(h.pcs k hk).add hS,h.len,h.d6,h.look,h.lo9⟩
theorem hZ.add (hS:∀ p∈S,KP w P p.1=none) {pc:Nat→Str×Str}(h:hZ w P pt xs pc):hZ w (bN P S) pt xs pc:=by
 obtain ⟨⟨pd,v,hs,tk0,tk1,dn,e1,e2,e3,e4⟩,hp⟩:=h
 exact ⟨⟨pd,v,hs,tk0,tk1,dn,b0 hS e1,b0 hS e2,e3,e4⟩,hp.add hS⟩
theorem kQ.add (hS:∀ p∈S,KP w P p.1=none) (h:kQ w P D l):kQ w (bN P S) D l:=
 ⟨λ k hk=>(h.pt k hk).add hS,h.tot,h.l6⟩
theorem n6 (h:c7 w P D):D.n≤6:=by have:=h.n56;unfold PD.n;lia
variable {F:List Addr}{own old:aq}
theorem ag.stay (L:ag (KP w P) H h F (own++S) old) (hF:∀ a∈F,a∈own.map (·.1)):ag (KP w (bN P S)) H h F own old∧(∀ p∈S,KP w P p.1=none)∧(S.map (·.1)).Nodup:=by
 have nd:=L.nd
 refine ⟨(L.sub own (S++old) (List.sublist_append_left _ _) (λ p hp=>?_) (by rw [←bC];exact nd) hF).intoP,λ p hp=>L.off p (bu _ hp),?_⟩
 ·rcases dm.mp hp with hp|hp
  ·exact aI _ (bu _ hp)
  ·exact bu _ hp
 ·have:=L.ndOwn
  rw [aW] at this
  exact (bX.mp this).2.1
theorem ag.front (L:ag (KP w P) H h F (own++S) old) (hF:∀ a∈F,a∈own.map (·.1)):ag (KP w P) H h F own old:=
 L.sub own old (List.sublist_append_left _ _) (λ p hp=>bu _ hp) (by
  have nd:=L.nd
  rw [aW,aW] at nd
  rw [aW]
  obtain ⟨n1,n2,n3⟩:=bX.mp nd
  obtain ⟨n4,n5,n6⟩:=bX.mp n1
  exact bX.mpr ⟨n4,n2,λ x hx y hy=>n3 x (aI _ hx) y hy⟩) hF
end
theorem aR {F:List Addr}{own:aq}(n:Nat) (hF:F=(own.take n).map (·.1)++cb fl) (h:∀ p∈fl,p∈tl):∀ a∈F,a∈(own++tl).map (·.1):=λ a ha=>by
 rw [hF] at ha
 rw [aW]
 rcases dm.mp ha with ha|ha
 ·obtain ⟨p,hp,rfl⟩:=aY.mp ha
  exact aI _ (bW (f:=(·.1)) (List.mem_of_mem_take hp))
 ·obtain ⟨p,hp,rfl⟩:=aY.mp ha
  exact bu _ (bW (f:=(·.1)) (h p hp))
section
end
section
variable {F:List Addr}{own old:aq}{N:Addr}{o:Obj}
theorem ag.frames (L:ag K H h F ((N,o)::(rest++fl)) old):ag K h h (cb ((N,o)::fl)) ((N,o)::fl) []:=by
 have hm:∀ p∈(N,o)::fl,p∈(N,o)::(rest++fl):=λ p hp=>by
  rcases bI.mp hp with rfl|hp
  ·exact .head _
  ·exact .tail _ (bu _ hp)
 refine ag.start (own:=(N,o)::fl) (old:=[]) L.kin (λ p hp=>?_) ?_ λ p hp=>?_
 ·rw [aX] at hp;exact (L.hown p (hm p hp)).1
 ·rw [aX]
  exact L.ndOwn.sublist (((List.sublist_append_right _ _).cons_cons _).map _)
 ·rw [aX] at hp;exact L.off p (hm p hp)
theorem ag.framesB (L:ag K H h F ((N,o)::(rest++fl)) old) (L':ag K h h' (cb ((N,o)::fl)) ((N,o')::fl') []) (hf:cb fl'=cb fl):ag K H h' F ((N,o')::(rest++fl')) old:=by
 have P:gB h h' (cb ((N,o)::fl)) []:=L'.mkPost [] (λ p hp=>nomatch hp) List.nodup_nil
 have nd:=L.ndOwn
 refine L.after P _ ?_ (λ a ha=>?_) λ p hp=>?_
 ·show N::((rest++fl').map (·.1))=N::((rest++fl).map (·.1))
  rw [aW,aW]
  show N::(_++cb fl')=N::(_++cb fl)
  rw [hf]
 ·show a∈N::((rest++fl).map (·.1))
  rw [aW]
  rcases bI.mp ha with rfl|ha
  ·exact .head _
  ·exact .tail _ (bu _ ha)
 ·rcases bI.mp hp with rfl|hp
  ·exact (L'.hown _ (.head _)).1
  ·rcases dm.mp hp with hr|hr
   ·refine P.keep _ _ (λ hm=>?_) (L.hown p (.tail _ (aI _ hr))).1
    rw [List.map_cons,aW] at nd
    have n1:=List.nodup_cons.mp nd
    rcases bI.mp hm with e|hm
    ·exact n1.1 (aI _ (aY.mpr ⟨p,hr,e⟩))
    ·exact (bX.mp n1.2).2.2 p.1 (bW hr) p.1 hm rfl
   ·exact (L'.hown p (.tail _ hr)).1
noncomputable def pI (own:aq) (idx:List Nat):aq:=idx.map λ i=>(own[i]?).getD (0,cZ)
theorem ag.pickF {front:aq}(L:ag K H h F (front++tl) old) (idx:List Nat) (b:(je idx&&idx.all λ i=>Nat.blt i front.length)=true) (hF:∀ a∈F,a∈(pI front idx++tl).map (·.1)):ag K H h F (pI front idx++tl) old:=by
 simp only [Bool.and_eq_true] at b
 refine L.pick front.length idx (pI front idx) tl ?_ (by simp) (iR b.1) hF
 unfold pI
 rw [List.map_map,List.take_left]
 refine List.map_congr_left λ i hi=>?_
 have h1:i < front.length:=bp (List.all_eq_true.mp b.2 i hi)
 simp [h1]
end
theorem ag.ownMem {F:List Addr}{own old:aq}(L:ag K H h F own old) {o:Obj}(m:(a,o)∈own):h.get? a=some o:=(L.hown _ m).1
open PySem.SeqAt in
theorem ut {A:Around}{a b n:Nat}{f g:Nat→Nat}(X:Nat→VA) (h1:s.heap.get? a=some (ab (bk N f) n)) (h2:s.heap.get? b=some (ab (bk N g) m)) (hu:A.in1.units < cLine)
  (he:∀ j,j < N→∃ v u,(s.heap.get? (f j)=some (ab (X j) v)∧s.heap.get? (g j)=some (ab (X j) u))∨(s.heap.get? (f j)=some (aU (X j) v)∧s.heap.get? (g j)=some (aU (X j) u))) (hR:R (.ok (.ret (.bool false))) s):codeAny (model pg w) A (.builtin "list.__ne__" ⟨[.ref a,.ref b],[]⟩) R s:=by
 refine Bu h1 h2 (by rw [eL,eL]) (λ j k1 k2=>?_) hR
 have hj:j < N:=by rw [eL] at k1;exact k1
 have e1:(bk N f)[j]=.ref (f j):=by
  have:=bK (v:=f) hj
  rw [i9 k1] at this;exact bo this
 have e2:(bk N g)[j]=.ref (g j):=by
  have:=bK (v:=g) hj
  rw [i9 k2] at this;exact bo this
 rw [e1,e2]
 obtain ⟨v,u,h|h⟩:=he j hj
 ·exact ru hu h.1 h.2
 ·exact qA hu h.1 h.2
theorem nI {n:Nat}{t':Nat→Tok}(h:∀ k,v k=v' k):bx (ah n v t) (ah n v' t') true:=by
 refine .inr ⟨by rw [au,au],λ _=>true,λ j h1 h2=>?_,by simp⟩
 have hj:j < n:=by rw [au] at h1;exact h1
 have e1:(ah n v t)[j]=.int (v j) (t j):=by
  have:=aG (v:=v) (t:=t) hj
  rw [i9 h1] at this;exact bo this
 have e2:(ah n v' t')[j]=.int (v' j) (t' j):=by
  have:=aG (v:=v') (t:=t') hj
  rw [i9 h2] at this;exact bo this
 rw [e1,e2]
 exact .inr (.inl ⟨_,_,_,_,rfl,rfl,by rw [h j];simp⟩)
theorem zN {n:Nat}(h:∀ k,v k=v' k):bx (ah n v t) (cn (ca λ i q=>.int (v' i) q.1) (aw z n)) true:=by
 obtain ⟨u,e⟩:=dB v' z n
 rw [e];exact nI h
theorem B9 {n:Nat}:Cx (cn (ca λ i q=>.bool false) (aw z n)) (.bool true) false:=by
 rw [lO]
 refine ⟨λ _=>false,λ y hy=>?_,by simp⟩
 unfold b6 at hy
 simp only [List.mem_toArray,aY] at hy
 obtain ⟨i,_,rfl⟩:=hy
 exact .inr (.inr ⟨_,_,rfl,rfl,rfl⟩)
theorem DE (N:Addr):(aQ N).scope.kind≠.module:=by
 have e:(aQ N).scope.kind=.function:=by kernel_rfl
 rw [e];decide
theorem FK {N:Addr}{n:Nat}{el:List Env}(h:dP el fl):dP (aQ N::el) ((N,aV w es n sl)::fl):=⟨DE N,rfl,(λ vs e=>by cases e),h⟩
noncomputable def aB (b:Nat→Bool) (n:Nat):List Nat:=(List.range n).filter b
theorem jE (b:Nat→Bool) (z:Nat→Nat) (n:Nat):∃ t,cn (kU b) (aw z n)=ah (aB b n).length (λ j=>((aB b n).getD j 0:Int)) t:=by
 have main:∀ qs:List Q3,∃ ts:List Tok,ts.length=(aB b qs.length).length∧cn (kU b) qs=(List.zipWith (λ (k:Nat) t=>Value.int (k:Int) t) (aB b qs.length) ts).toArray:=by
  intro qs
  generalize hn:qs.length=n
  induction n generalizing qs with
  |zero=>rw [List.length_eq_zero_iff.mp hn];exact ⟨[],rfl,rfl⟩
  |succ n ih=>
   have hne:qs≠[]:=λ e=>by rw [e] at hn;cases hn
   have hl:qs.dropLast.length=n:=by rw [List.length_dropLast,hn];rfl
   obtain ⟨ts,h1,h2⟩:=ih qs.dropLast hl
   have e:qs=qs.dropLast++[qs.getLast hne]:=(List.dropLast_concat_getLast hne).symm
   rw [e,fN,h2,hl]
   have ep:aB b (n+1)=aB b n++(if b n then [n] else []):=by
    unfold aB
    rw [List.range_succ,List.filter_append]
    simp [List.filter_cons]
   cases hb:b n with
   |false=>
    rw [tz hb]
    refine ⟨ts,?_,?_⟩<;>rw [ep,hb]<;>simp [h1]
   |true=>
    rw [tT hb]
    refine ⟨ts++[(qs.getLast hne).1],?_,?_⟩
    ·rw [ep,hb];simp [h1]
    ·rw [ep,hb]
     simp only [if_true]
     rw [List.zipWith_append (by rw [h1])]
     simp
 obtain ⟨ts,h1,h2⟩:=main (aw z n)
 rw [n7] at h1 h2
 refine ⟨λ j=>ts.getD j 0,?_⟩
 rw [h2]
 unfold ah
 congr 1
 apply du
 ·simp [h1]
 ·intro i k1 k2
  have k3:i < (aB b n).length:=by simp at k2;omega
  have k4:i < ts.length:=by omega
  simp [k3,k4]
theorem o4 {n:Nat}:bx (ah n v t) #[] (decide (n=0)):=by
 by_cases h:n=0
 ·subst h
  have:ah 0 v t=#[]:=rfl
  rw [this,decide_eq_true rfl]
  exact .refl _
 ·rw [decide_eq_false h]
  refine .inl ⟨?_,rfl⟩
  rw [au];simpa using h
theorem fg {l:Nat}{f g:Bool}(h1:Nat.blt 0 l=f) (h2:Nat.beq l 0=g):g=!f:=by
 subst h1 h2
 induction l<;>rfl
noncomputable abbrev Ah (f g:Nat→Bool):kJ:=λ i q=>[(q.1,aU #[.bool (f i),.bool (g i)] 0)]
theorem w0 {A:Around}{t:Nat}{F:List Addr}{pre old:aq}{n a b u1 u2:Nat}{f1 g1 f2 g2:Nat→Bool}{z1 z2:Nat→Nat}
  (hfg:∀ k,k < n→f1 k=f2 k∧g1 k=g2 k) (L:ag K H h F (pre++(fl++(ec (Ah f1 g1) (aw z1 n)++ec (Ah f2 g2) (aw z2 n)))) old) (hi:pre[i]?=some (a,ab (cn (ca λ i q=>.ref q.1) (aw z1 n)) u1)) (hj:pre[j]?=some (b,ab (cn (ca λ i q=>.ref q.1) (aw z2 n)) u2)) (hu:A.in1.units < cLine)
  (hR:R (.ok (.ret (.bool false))) ⟨h,g,d,t,os⟩):codeAny (model pg w) A (.builtin "list.__ne__" ⟨[.ref a,.ref b],[]⟩) R ⟨h,g,d,t,os⟩:=by
 have m1:∀ {p:Addr×Obj},p∈pre→p∈pre++(fl++(ec (Ah f1 g1) (aw z1 n)++ec (Ah f2 g2) (aw z2 n))):=λ hp=>aI _ hp
 have h1:=L.ownMem (m1 (bQ hi))
 have h2:=L.ownMem (m1 (bQ hj))
 obtain ⟨x1,y1,e1,q1⟩:=jr (Ah f1 g1) z1 n
 obtain ⟨x2,y2,e2,q2⟩:=jr (Ah f2 g2) z2 n
 rw [e1] at h1
 rw [e2] at h2
 refine ut (N:=n) (f:=x1) (g:=x2) (λ k=>#[.bool (f1 k),.bool (g1 k)]) h1 h2 hu (λ k hk=>⟨0,0,.inr ⟨?_,?_⟩⟩) hR
 ·obtain ⟨q,w1,_,m⟩:=q1 k hk
  rw [←w1]
  exact L.ownMem (bu _ (bu _ (aI _ (m _ (.head _)))))
 ·obtain ⟨q,w1,_,m⟩:=q2 k hk
  rw [←w1,(hfg k hk).1,(hfg k hk).2]
  exact L.ownMem (bu _ (bu _ (bu _ (m _ (.head _)))))
theorem u5 {a b:Int}(h0:0≤a) (hb:0 < b):0≤a.fdiv b∧a.fdiv b≤a:=by
 rw [Int.fdiv_eq_ediv_of_nonneg _ (by omega)]
 exact ⟨Int.ediv_nonneg h0 (by omega),Int.ediv_le_self _ h0⟩
theorem yK {x:Nat}(h:x < 10 ^ 9):0≤(x:Int).fdiv 128∧(x:Int).fdiv 128 < 10 ^ 9:=by
 have:=u5 (a:=(x:Int)) (b:=128) (by lia) (by lia)
 omega
theorem AM {x:Nat}(T:Nat) (h:x < 10 ^ 9):0≤((x:Int).fdiv 128).fdiv ((T:Int)+1)∧((x:Int).fdiv 128).fdiv ((T:Int)+1) < 10 ^ 9:=by
 have h1:=yK h
 have h2:=u5 (a:=(x:Int).fdiv 128) (b:=(T:Int)+1) h1.1 (by omega)
 omega
section
@[irreducible] noncomputable def GE (V:RV) (hs:List Hn) (A:Around) (f:Addr) (fd:FuncData) (args:Args) (own old:aq) (ps:Ps):RS:=Bn 1000000 V ps hs A (.call (.ref f) args) none true (gX f fd args) .base own old 0 0 [] [] []
theorem Fb (O:V.toRF.Ok) (hs:List Hn) {A:Around}{f:Addr}{o:Obj}{fd:FuncData}{args:Args}(hK:V.K f=some o) (hd:o.data=.func fd) (hg:(fd.scope.isGenerator||fd.scope.isCoroutine)=false) {own old:aq}(L:ag V.K V.H h V.F own old) (hn:h.objs.size=V.n)
  (x:∀ ps,(GE V hs A f fd args own old ps).FineOf V):codeAny (model V.prog V.w) A (.call (.ref f) args) V.R ⟨h,V.gg,V.d,V.t₀,V.os⟩:=by
 have G:Gd V own old 0 h:=⟨L,hn⟩
 unfold GE at x
 have z:=(fx 1000000 V O hs A (.call (.ref f) args) none true (gX f fd args) .base own old 0 0 [] [] []).2 x h G
 have y:=y_code _ _ _ _ _ _ (j9 (G.1.kin f o hK) hd hg z)
 unfold sh at y
 rw [dy] at y
 exact y
noncomputable def EP:PySem.Expr:=match eh (iN 14) with
 |.Subscript (.Call _ _ (k::_) _) _ _=>k.value
 |_=>default
noncomputable def HJ:PySem.Expr→Arguments
 |.Lambda a _ _ _=>a
 |_=>default
noncomputable def HP:PySem.Expr→PySem.Expr
 |.Lambda _ b _ _=>b
 |_=>default
noncomputable def Hl:PySem.Expr→Scope
 |.Lambda _ _ s _=>s
 |_=>default
noncomputable def E9 (N ac ct:Addr):FuncData:=⟨"<lambda>","_law_paired.<locals>.<lambda>",HJ EP,.expr (HP EP),Hl EP,3,[("turned",N+14),("number",N+13),("count",N+12)],.none,.none,.none,.str "law_pk0052_01" 332,none,.ref ac,.ref ct,0⟩
noncomputable def pr (N ac ct:Addr):Obj:=⟨.type "function",none,.func (E9 N ac ct),#[]⟩
noncomputable def kN (v:Nat→Value) (t:Tok):Obj:=dS (.type "code") #[v 0,.str "_law_paired.<locals>.<lambda>" t,v 2,v 3,v 4,v 5,v 6,v 7,v 8,v 9,v 10,v 11,v 12,v 13,v 14,v 15,v 16,v 17,v 18]
theorem AA (N ac ct:Addr):((E9 N ac ct).scope.isGenerator||(E9 N ac ct).scope.isCoroutine)=false:=by kernel_rfl
end
section
variable {A:Around}
theorem B5 {q ac ct tl tlv:Nat}{k3 k6:Tok}{av:Nat→Value}{tv:Nat→Int}{tu:Nat→Tok}{F:List Addr}{own old:aq}(R:RP) (hnum:0≤num∧num < 10 ^ 9) (hk:k < m+1) (hm:m≤5)
  (hpf:∀ p∈([(q,pr N ac ct),(ac,kN av ta),(N+13,ak (.int num k6)),(N+14,ak (.ref tl)),(tl,ab (ah (m+1) tv tu) tlv),(N+12,ak (.int ((m+1:Nat):Int) k3))]:aq),KP w P p.1=some p.2)
  (L:ag (KP w P) H hh F own old)
  (hR:∀ h' (g':BG) t' kt t1 t2,ag (KP w P) H h' F ((kt,aU #[.int (tv k) t1,.int (((k:Int)+num.fdiv 7).fmod ((m+1:Nat):Int)) t2] 0)::own) old→R (.ok (.ret (.ref kt))) ⟨h',g',dr,t',os⟩):
  codeAny (model pg w) AI (.call (.ref q) ⟨[.int k tk],[]⟩) R ⟨hh,gg,dr,tt,os⟩:=by
 obtain ⟨M,hM⟩:=bd hh
 have hq:=hpf _ (.head _)
 obtain ⟨w,c,rfl⟩:=cB w
 refine Fb (V:=vc _ P [d5 (ah (m+1) tv tu) k (.int (tv k) (tu k)),uH,rn] [(q,pr N ac ct),(ac,kN av ta),(N+13,ak (.int num k6)),(N+14,ak (.ref tl)),(tl,ab (ah (m+1) tv tu) tlv),(N+12,ak (.int ((m+1:Nat):Int) k3))] old H F M tt gg dr os R) (cR hpf) [bY,U,U,.e,iD,U,ib,ib,ib,.e,ib,.c 0 [2004],U,o8,.e,.c 1 [],.e,.e,gF,.e,.c 2 []] hq rfl (AA N ac ct) L hM λ ps=>?_
 refine ba [0] 2 own (λ W=>⟨.ok (.ret (.ref ((ps 2).3))),[((ps (nat_lit 2)).3,aU #[.int (tv k) (tu k),.int (Int.fmod (((↑k:Int))+(Int.fdiv num 7)) ((↑(m+1):Int))) ((ps 2).6 0)] 0)],[(↑(m+(1:Nat)):Int)≠(0:Int),(7:Int)≠(0:Int),Builtin.divisionGoesByPylong num (7:Int)=false,iz (↑k:Int),(ah (m+(1:Nat)) tv tu)[(↑k:Int).toNat]?=some (Value.int (tv k) (tu k))]⟩) rfl (by apply bq c;kernel_rfl) (by decide) (λ a ha=>?_) ?_ λ h' g' t' L'=>?_
 ·exact gY _ (L.foot a ha)
 ·repeat' first|exact ae|refine aa ?_ ?_
  all_goals first|exact aG hk|exact j7 hnum|lia|exact ⟨by lia,by lia⟩
 exact hR _ _ _ _ _ _ L'
end
theorem kB {A:Around}{id:String}{b:Builtin}{kw:List (Str×Value)}(hk:builtinKind id=none) (hp:plainId id=true)
  (hb:entryFor table id=some b) (ha:argsOk id ⟨args,kw⟩)
  (hc:wpAny (model prog w) A.in1 (b ⟨args,kw⟩) (λ fin s'=>∃ v,fin=.done (.ret v)∧R (.ok (.ret v)) s') (λ e s'=>R (.error e) s') s):codeAny (model prog w) A (.call (.builtin id) ⟨args,kw⟩) R s:=by
 refine codeAny_call_builtin hp hb ?_
 have hfin:=wpAny_mono hc (Q':=λ fin s'=>match fin with
   |.done f=>R (.ok f) s'
   |.again c'=>c'.quiet=true∧codeAny (model prog w) A c' R s')
  (λ fin s' h'=>by obtain ⟨v,rfl,hv⟩:=h';exact hv) λ _ _ h'=>h'
 simp only [checkBuiltinCall,hk]
 cases hsig:Manifest.signature? id with
 |none=>exact aA hfin
 |some sig=>
  simp only [argsOk,hsig] at ha
  have h2:Bind.checkArgs id sig ⟨args,kw⟩=pure ():=ha
  show wpAny _ A.in1 (Bind.checkArgs id sig ⟨args,kw⟩) _ _ s
  rw [h2];exact aA hfin
section
variable {F:List Addr}{own old:aq}
theorem yO {ls q:Addr}{ks:List (Int×Int)}{t:Nat}(h45:ks.length=4∨ks.length=5) (hk:vs.length=ks.length) (nd:ks.Nodup)
  (L:ag K H h F own old) (hl:h.get? ls=some (ab vs.toArray n0))
  (lam:∀ i x,vs[i]?=some x→∀ (own':aq) (h:Heap) (g:BG) (t:Nat) (Q:RP),ag K H h F own' old→
   (∀ h' (g':BG) t' kt t1 t2,ag K H h' F ((kt,aU #[.int (ks.getD i (0,0)).1 t1,.int (ks.getD i (0,0)).2 t2] 0)::own') old→Q (.ok (.ret (.ref kt))) ⟨h',g',d,t',os⟩)→codeAny (model pg w) AI (.call (.ref q) ⟨[x],[]⟩) Q ⟨h,g,d,t,os⟩)
  (x:∀ h' (g':BG) t' D nw e,ag K H h' F ((D,ab ((cA ks).toList.map λ i=>vs.getD i .none).toArray e)::(nw++own)) old→R (.ok (.ret (.ref D))) ⟨h',g',d,t',os⟩):
  codeAny (model pg w) AO (.call (.builtin "sorted") ⟨[.ref ls],[("key",.ref q)]⟩) R ⟨h,g,d,t,os⟩:=by
 have hsz:vs.length≤5:=by lia
 have sl:(100:Nat)≤sizeLine:=by rw [sizeLine_eq];lia
 refine kB kind_sorted plain_sorted entry_sorted (ksk_s1 _ _) ?_
 unfold Builtin.«sorted»
 refine af (m:=PySem.checkCount "sorted" 1 1 _) (aA ?_)
 refine af (collect_list ⟨_,hl,rfl,n0,rfl⟩ ?_ (by lia))
 refine af (wpAny_newList ?_ (by lia))
 have L1:=(L.pushed (ab #[] 0) rfl).update (i:=0) (f:=Obj.mapSeq (·++vs.toArray)) rfl rfl rfl
 have L2:=L1.pushed (ab vs.toArray 0) rfl
 generalize hh1:(h.push (ab #[] 0)).update h.objs.size (Obj.mapSeq (·++vs.toArray))=h1 at L2
 show wpAny _ _ _ _ _ ⟨h1.push (ab vs.toArray 0),g,d,t,os⟩
 have ho:=L2.ownAt 0 _ _ rfl
 refine af (wpAny_holding (wpAny_call_entry_kw slot_list_sort ⟨_,ho,rfl⟩ entry_list_sort ?body (ksk_l1 _ _)))
 rw [ksk_t1]
 refine yV h45 hk nd L2 (λ i x hx own' h g t Q L' k=>?_) λ h' g' t' nw e L'=>⟨_,rfl,aA ⟨_,rfl,?_⟩⟩
 ·refine wpAny_call (aM (j3 (by decide) (by decide)) (lam i x hx own' h g t _ L' λ h' g' t' kt t1 t2 L2=>k h' g' t' kt t1 t2 L2))
 ·exact x h' g' t' _ (nw++[(h.objs.size,_)]) e (by rw [bC];exact L')
end
noncomputable def dW (m:Nat) (num:Int) (tv:Nat→Int) (o:Nat→Nat) (c:Nat):List (Int×Int):=(List.range c).map λ j=>(tv (o j),((o j:Int)+num.fdiv 7).fmod ((m+1:Nat):Int))
theorem dq {tv:Nat→Int}{o:Nat→Nat}{c:Nat}:(dW m num tv o c).length=c:=by simp [dW]
theorem lL {tv:Nat→Int}{o:Nat→Nat}{c:Nat}(h:j < c):(dW m num tv o c).getD j (0,0)=(tv (o j),((o j:Int)+num.fdiv 7).fmod ((m+1:Nat):Int)):=by
 simp [dW,hW,h]
noncomputable def Ee (o:Obj):Addr:=match o.data with|.func f=>mt f.code|_=>0
noncomputable def vz (o:Obj):Addr:=match o.data with|.func f=>mt f.closureTuple|_=>0
noncomputable def IT (c:Code):Value:=match c with|.call _ a=>(a.kw.getD 0 default).2|_=>.none
noncomputable def jD (w:World) (P:KF) (N m c:Nat) (num:Int) (tv:Nat→Int) (o:Nat→Nat):Sp:=⟨640,2200,false,
 λ cc fd=>match cc with
  |.call v _=>match v with
   |.builtin i=>if i="sorted" then ew true [(1,λ _=>mB cc 0),(1,λ _=>mt (IT cc)),(1,λ fd=>Ee (az fd 1)),(1,λ _=>N+13),(1,λ _=>N+14),(1,λ fd=>mt (fT (az fd 4))),(2,λ _=>N+12)] fd else none
   |_=>none
  |_=>none,
 λ cc fd=>⟨.call (.builtin "sorted") ⟨[.ref (aT fd 0)],[("key",.ref (aT fd 1))]⟩,[],
  [(aT fd 0,ab (ad (az fd 0)) (ao (az fd 0))),(aT fd 1,pr N (aT fd 2) (vz (az fd 1))),(aT fd 2,kN (bm (az fd 2)) (bE (bm (az fd 2) 1))),(N+13,ak (.int num (bE (fT (az fd 3))))),(N+14,ak (.ref (aT fd 5))),(aT fd 5,ab (ad (az fd 5)) (ao (az fd 5)))],
  [(N+12,ak (.int ((m+1:Nat):Int) (bE (fT (az fd 6)))))],
  λ z=>.ok (.ret (.ref (z 0))),λ z=>[],λ z=>[(z 0,ab ((cA (dW m num tv o c)).toList.map λ i=>(ad (az fd 0)).toList.getD i .none).toArray (z 1))],λ _=>[],
  [(∃ t,ad (az fd 0)=ah c (λ j=>(o j:Int)) t),(∃ t,ad (az fd 5)=ah (m+1) tv t),(c=4∨c=5),m≤5,0≤num∧num < 10 ^ 9,(∀ j,j < c→o j < m+1),(dW m num tv o c).Nodup]⟩⟩
theorem ku {c:Nat}{tv:Nat→Int}{o:Nat→Nat}:bO w (KP w P) (jD w P N m c num tv o):=by
 rintro cc fd r rfl hc ho
 refine ⟨λ _=>rfl,λ h g d t os R L hp x=>?_⟩
 obtain ⟨tu,h0⟩:=ho _ (.head _)
 obtain ⟨tw,h1⟩:=ho _ bU
 have h2:=ho _ fG
 have h3:=ho _ jX
 have h4:=ho _ Ae
 have h5:=ho _ Gk
 have h6:=ho _ F9
 dsimp only [jD] at L hp x⊢
 have h12:=hp _ (.head _)
 dsimp only at h0 h1 h12
 rw [h0,h1] at L
 rw [h0,h1] at x
 generalize hfq:aT fd 1=q at *
 generalize hfa:aT fd 2=ac at *
 generalize hft:aT fd 5=tl at *
 have S:=L.offo
 have nd:=L.nd
 have L1:ag (KP w (bN P [(q,pr N ac (vz (az fd 1))),(ac,kN (bm (az fd 2)) (bE (bm (az fd 2) 1))),(N+13,ak (.int num (bE (fT (az fd 3))))),(N+14,ak (.ref tl)),(tl,ab (ah (m+1) tv tw) (ao (az fd 5)))])) h h [] [] [(aT fd 0,ab (ah c (λ j=>(o j:Int)) tu) (ao (az fd 0)))]:=by
  refine ag.intoP ((L.permOld ?_))
  exact (jm (l₁:=[_]) (l₂:=[_,_,_,_,_]))
 have nd1:(([(q,pr N ac (vz (az fd 1))),(ac,kN (bm (az fd 2)) (bE (bm (az fd 2) 1))),(N+13,ak (.int num (bE (fT (az fd 3))))),(N+14,ak (.ref tl)),(tl,ab (ah (m+1) tv tw) (ao (az fd 5)))]:aq).map (·.1)).Nodup:=(List.nodup_cons.mp nd).2
 have off:∀ p∈([(q,pr N ac (vz (az fd 1))),(ac,kN (bm (az fd 2)) (bE (bm (az fd 2) 1))),(N+13,ak (.int num (bE (fT (az fd 3))))),(N+14,ak (.ref tl)),(tl,ab (ah (m+1) tv tw) (ao (az fd 5)))]:aq),KP w P p.1=none:=λ p hp=>S p (.tail _ hp)
 generalize hSS:([(q,pr N ac (vz (az fd 1))),(ac,kN (bm (az fd 2)) (bE (bm (az fd 2) 1))),(N+13,ak (.int num (bE (fT (az fd 3))))),(N+14,ak (.ref tl)),(tl,ab (ah (m+1) tv tw) (ao (az fd 5)))]:aq)=SS at L1 nd1 off
 have mem:∀ p∈SS,KP w (bN P SS) p.1=some p.2:=λ p hp=>cy nd1 off hp
 have hpf:∀ p∈([(q,pr N ac (vz (az fd 1))),(ac,kN (bm (az fd 2)) (bE (bm (az fd 2) 1))),(N+13,ak (.int num (bE (fT (az fd 3))))),(N+14,ak (.ref tl)),(tl,ab (ah (m+1) tv tw) (ao (az fd 5))),(N+12,ak (.int ((m+1:Nat):Int) (bE (fT (az fd 6)))))]:aq),KP w (bN P SS) p.1=some p.2:=λ p hp=>by
  have hp2:p∈SS++[(N+12,ak (.int ((m+1:Nat):Int) (bE (fT (az fd 6)))))]:=by rw [←hSS];exact hp
  rcases dm.mp hp2 with hp2|hp2
  ·exact mem p hp2
  ·rw [ci.mp hp2];exact b0 off h12
 have el:(ah c (λ j=>(o j:Int)) tu).toList.toArray=ah c (λ j=>(o j:Int)) tu:=by simp
 have hlen:(ah c (λ j=>(o j:Int)) tu).toList.length=c:=by rw [Array.length_toList,au]
 refine yO (ks:=dW m num tv o c) (vs:=(ah c (λ j=>(o j:Int)) tu).toList) (n0:=ao (az fd 0)) (by rw [dq];exact h2) (by rw [dq,hlen]) h6 L1 (by rw [el];exact L1.hold _ (.head _)) (λ i xv hx own' h g t Q L' k=>?_) λ h' g' t' D nw e L'=>?_
 ·have hx':(ah c (λ j=>(o j:Int)) tu)[i]?=some xv:=by rw [←hx];simp
  obtain ⟨hi,rfl⟩:=cW hx'
  rw [lL hi] at k
  refine B5 (N:=N) (m:=m) (q:=q) (ac:=ac) (tl:=tl) (num:=num) (tv:=tv) (k:=o i) Q h4 (h5 i hi) h3 hpf L' λ h' g' t' kt t1 t2 L2=>k h' g' t' kt t1 t2 L2
 ·refine x (λ i=>match i with|0=>D|_=>e) h' g' t' (λ e=>by cases e) ?_
  have L2:=L'.outP nd1 off
  have L3:=(L2.permOld (old':=[(aT fd 0,ab (ah c (λ j=>(o j:Int)) tu) (ao (az fd 0)))]++SS) jm)
  rw [←hSS] at L3
  rw [aX] at L3
  have L4:=ag.front (own:=[(D,_)]) (S:=nw) L3 (λ a ha=>nomatch ha)
  exact L4
noncomputable abbrev NE:Value→Shared→Prop:=λ _ _=>False
section
variable {A:Around}
theorem yD (h:wpOwn M A c (M.den c) (λ fin s'=>match fin with|.done f=>R (.ok f) s'|.again c'=>c'.quiet=true∧codeAny M A c' R s') NE s):codeAny M A c R s:=λ Γ p hc hΓ=>by
 rw [wpCode_iff_wp,hc]
 refine Sem.wp_mono M Γ _ (λ fin p' s' h'=>?_) (λ _ _ _ h'=>(h':False).elim) p s (h Γ p hc hΓ)
 cases fin with
 |done f=>exact h'
 |again c'=>exact ⟨h'.1,h'.2 (Γ.goto c') p' rfl (hΓ.goto c')⟩
theorem km {m:Sem α}{k:Value→Sem Unit}{Q:α→Shared→Prop}(h:wpOwn M A c m Q NE s):wpOwn M A c (m.onRaise k) Q E s:=λ Γ p hc hΓ=>by
 rw [Sem.wp_onRaise]
 exact Sem.wp_mono M Γ _ (λ _ _ _ h'=>h') (λ _ _ _ h'=>(h':False).elim) p s (h Γ p hc hΓ)
theorem cJ {t t':Sem α}{Q:α→Shared→Prop}(e:t=t') (h:wpOwn M A c t' Q E s):wpOwn M A c t Q E s:=e▸h
end
section
variable {A:Around}{it:Value}{body orelse:List Stmt}
theorem jB (h:wpOwn (model prog w) A (.forLoop target it body orelse env) (pyNext it) (λ r s₁=>match r with
   |none=>codeAny (model prog w) A (.block orelse env) R s₁
   |some v=>wpOwn (model prog w) A (.forLoop target it body orelse env) (assign target env v) (λ _ s₂=>wpOwn (model prog w) A (.forLoop target it body orelse env) (execs body env) (λ f s₃=>match f with
    |.next|.cont=>codeAny (model prog w) A (.forLoop target it body orelse env) R s₃
    |.brk=>R (.ok .next) s₃
    |.ret v=>R (.ok (.ret v)) s₃) NE s₂) NE s₁) NE s) (ht:∀ v,letOwnedTupleGo target it v=pure ():=by intro _;rfl):codeAny (model prog w) A (.forLoop target it body orelse env) R s:=by
 refine yD ?_
 show wpOwn _ _ _ ((forTurn target it body orelse env).onRaise (λ x=>do noteFrame x env;theTreesLotGoes x)) _ _ s
 refine km ?_
 simp only [forTurn]
 refine bG (eY (wpAny_standAt ?_))
 refine bG (km (wpOwn_mono h (λ r s₁ h₁=>?_) λ _ _ h'=>h'))
 cases r with
 |none=>exact aP ⟨rfl,h₁⟩
 |some v=>
  refine bG (cJ (ht v) (aP ?_))
  refine bG (wpOwn_mono h₁ (λ _ s₂ h₂=>bG (wpOwn_mono h₂ (λ f s₃ h₃=>?_) λ _ _ h'=>h')) λ _ _ h'=>h')
  cases f with
  |next=>exact aP ⟨rfl,h₃⟩
  |cont=>exact aP ⟨rfl,h₃⟩
  |brk=>exact aP h₃
  |ret v=>exact aP h₃
end
section
variable {A:Around}
theorem nu:∀ (l1 l2:List Stmt),execs (l1++l2) env=(execs l1 env>>=λ f=>match f with|.next=>execs l2 env|f=>pure f)
 |[],l2=>by first|rfl|(rw [execs_nil];rfl)|(unfold execs;rfl)
 |s::l1,l2=>by
  rw [List.cons_append,bf,bf,bind_assoc]
  congr 1;funext f
  cases f<;>first|exact nu l1 l2|rfl
theorem dY {l2:List Stmt}(h:wpOwn M A c (execs l1 env) (λ f s'=>match f with|.next=>wpOwn M A c (execs l2 env) Q E s'|f=>Q f s') E s):wpOwn M A c (execs (l1++l2) env) Q E s:=by
 rw [nu]
 refine bG (wpOwn_mono h (λ f s' h'=>?_) λ _ _ h'=>h')
 cases f<;>first|exact h'|exact aP h'
end
theorem Ew (O:V.toRF.Ok) {A:Around}(hR:V.R=cz id Q E) (hu:(A.under c).units < cLine) {own old:aq}(L:ag V.K V.H h V.F own old) (hn:h.objs.size=V.n) (hs:List Hn)
  (x:∀ ps,(oD id V hs A c (mT l1 env) own old ps).FineOf V):wpOwn (model V.prog V.w) A c (execs l1 env) Q E ⟨h,V.gg,V.d,V.t₀,V.os⟩:=
 Sm.own (iS hu l1 env) (dj id O hs hR L hn x)
theorem wW {pf old:aq}{F:List Addr}{n:Nat}(cs:List (dQ w P)) (hp:∀ p∈pf,KP w P p.1=some p.2) {A:Around}(hu:(A.under c).units < cLine) {own:aq}(L:ag (KP w P) H h F own old) (hn:h.objs.size=n) (hs:List Hn)
 (x:∀ ps,(oD id (vc w P cs pf old H F n t₀ gg d os (cz id Q E)) hs A c (mT l1 env) own old ps).FineOf (vc w P cs pf old H F n t₀ gg d os (cz id Q E))):wpOwn (model pg w) A c (execs l1 env) Q E ⟨h,gg.1,d,t₀,os⟩:=Ew (cR hp) rfl hu L hn hs x
theorem bt {cs:List (dQ w P)}{pf old:aq}{F:List Addr}{n:Nat}(hR:R=cz id Q E) (sel:List Nat) (k:Nat) (tl:aq) (v:World→cI) (hw:(v w)=⟨vf,vo,vb⟩) (a:Flow) (e:(r.V.toRF,r.old,r.eqs,r.gl.all GenState.bare,r.doneV sel k)=((vc w P cs pf old H F n t₀ gg d os R).toRF,old,dup r.eqs,true,(cI.mk vf vo vb).x tl)) (hv:vf=.ok a) (nd:sel.Nodup) (hF:∀ a∈F,a∈(vo++tl).map (·.1)) (ho:∀ y∈vb,y)
  (x:∀ h (g:BG) t,ag (KP w P) H h F (vo++tl) old→Q a ⟨h,g,d,t,os⟩):r.FineOf (vc w P cs pf old H F n t₀ gg d os R):=ba sel k tl (λ _=>⟨vf,vo,vb⟩) rfl e nd hF ho λ h g t L=>by
 rw [hR,hv]
 intro b hb
 have:a=b:=hb
 rw [←this]
 exact x h g t L
structure TS where
 kl:Addr
 zl:Addr
 ul:Addr
 bl:Addr
 tl:Addr
 vl:Addr
 n1:Nat
 n2:Nat
 n3:Nat
 n4:Nat
 n5:Nat
 n6:Nat
 ts:Nat→Tok
 tu:Nat→Tok
 tv:Nat→Tok
variable {kl:List Value}{ts:VA}{vl:Bool}{tv:Nat→Int}{bl:Nat}
noncomputable def wH (w:World) (P:KF) (pt pd:Addr) (xs:VA):Prop:=∃ v hs tk0 tk1 dn,KP w P pt=some (ax pd xs v)∧KP w P pd=some (d8 hs tk0 0 tk1 dn)
structure Al (w:World) (H:Heap) (D:PD) (pdf:Nat→Addr):Prop where
 ip:∀ j k,j < D.n→k < D.n→D.pt j=D.pt k→j=k
 iq:∀ j k,j < D.n→k < D.n→pdf j=pdf k→j=k
 hp:∀ k,k < D.n→H.get? (D.pt k)=none∧K0 w (D.pt k)=none
 hq:∀ k,k < D.n→H.get? (pdf k)=none∧K0 w (pdf k)=none
structure qw (w:World) (P:KF) (D:PD) (pdf:Nat→Addr) (l:Nat→Nat):Prop where
 pt:∀ k,k < D.n→wH w P (D.pt k) (pdf k) (D.pts l k)
 ld:∀ k,k < D.n→l k≤D.d k
theorem iG (look:Int) (k j:Nat):(eQ look (oS k) j).1.length+(eQ look (oS k) j).2.length=1:=by
 unfold eQ
 split<;>rfl
theorem uk (look:Int) (k j:Nat):(eQ look (oS k) j).1.length≤1000∧(eQ look (oS k) j).2.length≤1000:=by
 have:=iG look k j
 lia
theorem zG (b:Bool) (look:Int) (k m:Nat):bM (bL (jZ b look (oS k))) (b.toNat+m)=m:=by
 induction m with
 |zero=>induction b<;>rfl
 |succ m ih=>
  show bM _ (b.toNat+m)+bL _ (b.toNat+m)=m+1
  rw [ih]
  congr 1
  induction b with
  |false=>rw [show false.toNat+m=m from Nat.zero_add m];exact iG look k m
  |true=>rw [show true.toNat+m=m+1 from Nat.add_comm 1 m];exact iG look k m
section
variable {F:List Addr}{own old:aq}
theorem eZ (hD:c7 w P D) (hk:k < D.n) (hl:l k≤D.d k):(D.pts l k).size=D.na k+l k:=by
 unfold PD.pts
 have h1:=hD.len k hk
 have h2:(D.row k).toList.length=(D.qs k).length:=by
  show (iZ (D.qs k)).toList.length=_
  rw [Array.length_toList,dw]
 rw [List.size_toArray,List.length_take,h2,h1]
 lia
theorem BL (hi:i < (D.pts l k).size):(D.pts l k)[i]?=(D.row k)[i]?:=by
 unfold PD.pts at hi⊢
 rw [List.size_toArray,List.length_take] at hi
 simp only [List.getElem?_toArray]
 rw [List.getElem?_take_of_lt (by lia),Array.getElem?_toList]
theorem k9 (hD:c7 w P D) (hk:k < D.n):aZ w P (D.pts l k) (D.pc k):=by
 have hp:=hD.pcs k hk
 have hle:(D.pts l k).size≤(D.row k).size:=by
  unfold PD.pts
  rw [List.size_toArray,List.length_take,Array.length_toList]
  lia
 exact ⟨cP hle hp.1,λ i hi=>by
  obtain ⟨a,b,u,tf,tq,e1,e2⟩:=hp.2 i (by lia)
  exact ⟨a,b,u,tf,tq,by rw [BL hi];exact e1,e2⟩⟩
theorem Cw (hD:c7 w P D) (hk:k < D.n) (hl:l k≤D.d k):bM (bL (D.pc k)) (D.pts l k).size=l k:=by
 rw [eZ hD hk hl]
 exact zG _ _ _ _
theorem qw.pdp (hD:c7 w P D) (I:Al w H D pdf) (h:qw w P D pdf l):kQ w P D l:=
 ⟨λ k hk=>by
  obtain ⟨v,hs,tk0,tk1,dn,e1,e2⟩:=h.pt k hk
  exact ⟨⟨pdf k,v,hs,tk0,tk1,dn,e1,e2,(I.hp k hk).2,(I.hq k hk).2⟩,k9 hD hk⟩,λ k hk=>Cw hD hk (h.ld k hk),λ k hk=>Nat.lt_of_le_of_lt (h.ld k hk) (hD.d6 k hk)⟩
theorem ag.oldOwn (L:ag K H h F own (p::old)) (hH:H.get? p.1=none):ag K H h F (p::own) old:=by
 have pm:(own++p::old).Perm ((p::own)++old):=List.perm_middle
 refine ⟨L.keep,λ q hq=>?_,λ q hq=>L.hold q (.tail _ hq),((pm.map _).nodup_iff).mp L.nd,λ a ha=>gY _ (L.foot a ha),L.kin,λ q hq=>?_,λ q hq=>L.offo q (.tail _ hq)⟩
 ·rcases bI.mp hq with rfl|hq
  ·exact ⟨L.hold _ (.head _),.inr hH⟩
  ·exact L.hown q hq
 ·rcases bI.mp hq with rfl|hq
  ·exact L.offo _ (.head _)
  ·exact L.off q hq
theorem FD (I:Al w H D pdf) (hk:k < D.n) (hX:wH w P (D.pt k) (pdf k) xs) (L:ag (KP w P) H h F own old):∃ v hs tk0 tk1 dn,D.pt k≠pdf k∧ag (KP w (dO P (D.pt k) (pdf k))) H h F ((D.pt k,ax (pdf k) xs v)::(pdf k,d8 hs tk0 0 tk1 dn)::own) old:=by
 obtain ⟨v,hs,tk0,tk1,dn,e1,e2⟩:=hX
 have h3:=(I.hp k hk).2
 have h4:=(I.hq k hk).2
 have hne:D.pt k≠pdf k:=λ e=>by rw [←e,e1] at e2;cases e2
 have L1:ag (KP w (bN (dO P (D.pt k) (pdf k)) [(D.pt k,ax (pdf k) xs v),(pdf k,d8 hs tk0 0 tk1 dn)])) H h F own old:=by
  rw [nV ((bP (P:=P) h3).symm.trans e1) ((bP (P:=P) h4).symm.trans e2) hne];exact L
 have L2:=L1.outP (Am hne) (wr (by rw [bP h3,oM]) (by rw [bP h4,rM]))
 have L3:=L2.oldOwn (I.hp k hk).1
 have L4:=L3.oldOwn (I.hq k hk).1
 exact ⟨v,hs,tk0,tk1,dn,hne,L4.perm (List.Perm.swap _ _ _)⟩
theorem in1 (L:ag (KP w P) H h F ((a,o1)::(b,o2)::own) old) (hF:∀ x∈F,x∈own.map (·.1)):ag (KP w (bN P [(a,o1),(b,o2)])) H h F own old:=
 (ag.stay (L.perm (own':=own++[(a,o1),(b,o2)]) (jm (l₁:=[_,_]))) hF).1
noncomputable def kL (P:KF) (a b:Addr) (o1 o2:Obj):KF:=bN (dO P a b) [(a,o1),(b,o2)]
theorem xw (h:K0 w a=none) (hne:a≠b):KP w (kL P a b o1 o2) a=some o1:=by
 rw [bP h];exact dC (Am hne) (.head _)
theorem zZ (h:K0 w b=none) (hne:a≠b):KP w (kL P a b o1 o2) b=some o2:=by
 rw [bP h];exact dC (Am hne) bU
theorem dL {x:Addr}{o:Obj}(h:KP w P x=some o) (h1:x≠a) (h2:x≠b):KP w (kL P a b o1 o2) x=some o:=by
 rcases eO h with e|⟨e0,e⟩
 ·exact dN e
 ·rw [bP e0]
  unfold kL
  rw [eW (by simp [h1,h2]),gD h1 h2];exact e
noncomputable def oY (o:Obj):Prop:=∃ s:String,o.cls=.type s∧s≠"dict"
theorem zH {x:Addr}{o:Obj}(hX:wH w P (D.pt k) (pdf k) xs) (h:KP w P x=some o) (hs:oY o):KP w (kL P (D.pt k) (pdf k) o1 o2) x=some o:=by
 obtain ⟨v,hs',tk0,tk1,dn,e1,e2⟩:=hX
 obtain ⟨s,c,n⟩:=hs
 refine dL h (λ e=>?_) λ e=>?_
 ·rw [e,e1] at h
  have:(Value.ref 130:Value)=Value.type s:=(congrArg Obj.cls (bo h)).trans c
  cases this
 ·rw [e,e2] at h
  have:Value.type "dict"=Value.type s:=(congrArg Obj.cls (bo h)).trans c
  exact n (Value.type.inj this).symm
theorem bj {v:Value}:oY (ak v):=⟨"cell",rfl,by decide⟩
theorem bc {n:Nat}:oY (ab xs n):=⟨"list",rfl,by decide⟩
theorem f6 {n:Nat}:oY (aU xs n):=⟨"tuple",rfl,by decide⟩
theorem qw.upd {l':Nat→Nat}{v':Nat}(I:Al w H D pdf) (hk:k < D.n) (h:qw w P D pdf l) (hl:∀ j,j≠k→l' j=l j) (hd:l' k≤D.d k):qw w (kL P (D.pt k) (pdf k) (ax (pdf k) (D.pts l' k) v') (d8 hs tk0 0 tk1 dn)) D pdf l':=by
 have hne:D.pt k≠pdf k:=λ e=>by
  obtain ⟨v,hs,tk0,tk1,dn,e1,e2⟩:=h.pt k hk
  rw [←e,e1] at e2;cases e2
 refine ⟨λ j hj=>?_,λ j hj=>?_⟩
 ·by_cases e:j=k
  ·subst e
   exact ⟨v',hs,tk0,tk1,dn,xw (I.hp j hj).2 hne,zZ (I.hq j hj).2 hne⟩
  ·obtain ⟨v,hs,tk0,tk1,dn,e1,e2⟩:=h.pt j hj
   obtain ⟨vk,hsk,tk0k,tk1k,dnk,f1,f2⟩:=h.pt k hk
   have hp:D.pts l' j=D.pts l j:=by unfold PD.pts;rw [hl j e]
   rw [hp]
   refine ⟨v,hs,tk0,tk1,dn,dL e1 (λ q=>e (I.ip j k hj hk q)) (λ q=>?_),dL e2 (λ q=>?_) λ q=>e (I.iq j k hj hk q)⟩
   ·rw [q,f2] at e1;cases e1
   ·rw [q,f1] at e2;cases e2
 ·by_cases e:j=k
  ·rw [e];exact hd
  ·rw [hl j e];exact h.ld j hj
end
section
theorem cD {x:Addr}{o:Obj}(hX:wH w P (D.pt k) (pdf k) xs) (h:KP w P x=some o) (hs:oY o):KP w (dO P (D.pt k) (pdf k)) x=some o:=by
 obtain ⟨v,hs',tk0,tk1,dn,e1,e2⟩:=hX
 obtain ⟨s,c,n⟩:=hs
 have h1:x≠D.pt k:=λ e=>by
  rw [e,e1] at h
  have:(Value.ref 130:Value)=Value.type s:=(congrArg Obj.cls (bo h)).trans c
  cases this
 have h2:x≠pdf k:=λ e=>by
  rw [e,e2] at h
  have:Value.type "dict"=Value.type s:=(congrArg Obj.cls (bo h)).trans c
  exact n (Value.type.inj this).symm
 rcases eO h with e|⟨e0,e⟩
 ·exact dN e
 ·rw [bP e0,gD h1 h2];exact e
theorem aZ.del {pc:Nat→Str×Str}(hX:wH w P (D.pt k) (pdf k) ys) (h:aZ w P xs pc):aZ w (dO P (D.pt k) (pdf k)) xs pc:=
 ⟨h.1,λ i hi=>by obtain ⟨h1,h2,u,tf,tq,e1,e2⟩:=h.2 i hi;exact ⟨h1,h2,u,tf,tq,e1,cD hX e2 f6⟩⟩
theorem c7.del (hX:wH w P (D.pt k) (pdf k) ys) (h:c7 w P D):c7 w (dO P (D.pt k) (pdf k)) D:=
 ⟨h.n56,cD hX h.c2 bj,cD hX h.c3 bj,cD hX h.c4 bj,cD hX h.c5 bj,cD hX h.c6 bj,cD hX h.c12 bj,cD hX h.lk bc,cD hX h.rl bc,cD hX h.nl bc,cD hX h.pl bc,λ j hj=>cD hX (h.row j hj) bc,λ j hj=>(h.pcs j hj).del hX,h.len,h.d6,h.look,h.lo9⟩
noncomputable def cg (f:Nat→Nat) (k x:Nat):Nat→Nat:=λ j=>if j=k then x else f j
theorem cK {f:Nat→Nat}{x:Nat}:cg f k x k=x:=by unfold cg;simp
theorem c9 {f:Nat→Nat}{x:Nat}(h:j≠k):cg f k x j=f j:=by unfold cg;simp [h]
theorem qx {n x:Nat}{t:Nat→Nat}{u:Tok}:(ah n (λ j=>(l j:Int)) t).setIfInBounds k (.int (x:Int) u)=ah n (λ j=>(cg l k x j:Int)) (cg t k u):=by
 apply Array.ext
 ·simp [au]
 ·intro i h1 h2
  have hi:i < n:=by rw [au] at h2;exact h2
  have e:=aG (v:=λ j=>(cg l k x j:Int)) (t:=cg t k u) hi
  rw [i9 h2] at e
  rw [bo e]
  have e2:=aG (v:=λ j=>(l j:Int)) (t:=t) hi
  have h3:i < (ah n (λ j=>(l j:Int)) t).size:=by rw [au];exact hi
  rw [i9 h3] at e2
  by_cases e3:i=k
  ·subst e3
   rw [Array.getElem_setIfInBounds_self,cK,cK]
  ·rw [Array.getElem_setIfInBounds_ne (h:=λ q=>e3 q.symm),bo e2,c9 e3,c9 e3]
   exact h3
theorem xq:((D.pts l k).toList.take (D.na k)).toArray=D.pts (cg l k 0) k:=by
 unfold PD.pts
 rw [cK]
 simp [List.take_take]
end
section
variable {F:List Addr}{own old cl:aq}{N:Addr}{o:Obj}
theorem ag.framesC (L:ag K H h F ((N,o)::(rest++(cl++fl))) old):ag K h h (cb ((N,o)::fl)) ((N,o)::fl) []:=by
 rw [←bC] at L;exact L.frames
theorem ag.framesD (L:ag K H h F ((N,o)::(rest++(cl++fl))) old) (L':ag K h h' (cb ((N,o)::fl)) ((N,o')::fl') []) (hf:cb fl'=cb fl):ag K H h' F ((N,o')::(rest++(cl++fl'))) old:=by
 rw [←bC] at L⊢;exact L.framesB L' hf
end
section
open PySem.W.ZFast
noncomputable def Gz:(st:Stmt)→(env:Env)→Bv (execs [st] env)
 |.If test body orelse pos,env=>⟨zb (standAt pos) λ _=>zb (G2 3 test env) λ t=>match t with
  |true=>mT body env
  |false=>mT orelse env,λ M A c hu=>by
  rw [iL]
  simp only [di]
  refine Sm.trans (t':=(standAt pos>>=λ _=>isTrue test env (eval test env)>>=λ t=>if t then execs body env else execs orelse env)) (Sm.eq (by rfl)) ?_
  refine Sm.bind_r λ _=>Sm.bind' ((si 3 test env).2 M A c hu) λ t=>?_
  induction t
  ·exact iS hu orelse env
  ·exact iS hu body env⟩
 |st,env=>⟨HL st env,λ M A c hu=>by rw [iL];exact z7 hu _ env⟩
noncomputable def IL (st:Stmt) (env:Env):Sem Flow:=(Gz st env).1
theorem y8 (O:V.toRF.Ok) {A:Around}{st:Stmt}(hR:V.R=cz id Q E) (hu:(A.under c).units < cLine) {own old:aq}(L:ag V.K V.H h V.F own old) (hn:h.objs.size=V.n) (hs:List Hn)
  (x:∀ ps,(oD id V hs A c (IL st env) own old ps).FineOf V):wpOwn (model V.prog V.w) A c (execs [st] env) Q E ⟨h,V.gg,V.d,V.t₀,V.os⟩:=
 Sm.own ((Gz st env).2 _ _ _ hu) (dj id O hs hR L hn x)
theorem AW {A:Around}{a b n:Nat}{r:Bool}(hf:bx xs ys r) (h1:s.heap.get? a=some (ab xs n)) (h2:s.heap.get? b=some (ab ys m)) (hR:R (.ok (.ret (.bool r))) s):codeAny (model pg w) A (.builtin "list.__eq__" ⟨[.ref a,.ref b],[]⟩) R s:=by
 rcases hf with ⟨hs,rfl⟩|⟨hs,ee,he,rfl⟩
 ·exact bw (F.slot_list_eq).plain F.entry_list_eq (PySem.SeqAt.list_eq_lengthsAt a b _ _ _ _ none none #[] #[] (by simpa using hs)) ⟨h1,h2,hR⟩
 ·exact bw (F.slot_list_eq).plain F.entry_list_eq (PySem.SeqAt.list_eqAt a b _ _ _ _ none none #[] #[] hs ee) ⟨h1,h2,λ j k1 k2=>(he j k1 k2).at _ _,hR⟩
end
theorem yF {v:Value}{e:LE}{o:Obj}(hj:e.at j=some (a',o)):sW (.builtin "list.__getitem__" ⟨[.ref a,.int (Int.negSucc 0) tk],[]⟩) e ⟨λ _=>.ok (.ret v),λ _=>e.own,[.v (.ref a) (.ref a'),.o o (ab xs (ao o))],[0 < xs.size∧xs[xs.size - 1]?=some v]⟩:=λ w P hq ho H F' h g d t os R L hp x=>by
 rw [bz (hq _ (.head _))]
 obtain ⟨h0,hx⟩:0 < xs.size∧xs[xs.size - 1]?=some v:=ho _ (.head _)
 have hl:=LE.get L hp hj
 have hdat:o.data=.seq xs (ao o):=congrArg Obj.data (hq _ bU)
 have x:=x id h g t (λ _=>rfl) L
 clear hq ho hp
 refine dt entry_list_getitem ?_
 rw [i0 slot_list_getitem.plain]
 obtain ⟨kk,hk⟩:=G3 (Int.negSucc 0)
 rw [←hk]
 show wpAny _ _ (Builtin.List.listSubscript? (.int kk tk)>>=_) _ _ _
 have e1:kk=-1:=hk
 refine af (wpAny_listSubscript_int (fitsIndex_neg (by lia) (by lia)) ?_)
 rw [hk]
 have hidx:seqIndex? (Int.negSucc 0) xs.size=some (xs.size - 1):=by
  rw [seqIndex_neg (by decide) (by lia)]
  congr 1;lia
 show wpAny _ _ ((Builtin.List.listItems (.ref a')>>=λ xs=>pure ((seqIndex? (Int.negSucc 0) xs.size).bind λ i=>xs[i]?.map (i,·)))>>=_) _ _ _
 refine af (af ?_)
 show wpAny _ _ (seqItems? (.ref a')>>=_) _ _ _
 refine af (wpAny_seqItems hl hdat (aA (aA ?_)))
 rw [hidx]
 simp only [Option.bind_some,hx,Option.map_some]
 first
  |exact af (aA (aA x))
  |exact aA x
noncomputable def Bf (xs:VA) (v:Value) (as:List Value) (l:List Nat) (e:LE):CX "list.__getitem__" as e:=match as with
 |[p,q]=>match p with
  |.ref a=>match q with
   |.int k' tk=>match k' with
    |.negSucc n=>match n with
     |0=>cH e l a λ j a' o _ hj=>jz _ (yF (xs:=xs) (v:=v) hj)
     |_+1=>cG
    |.ofNat _=>cG
   |_=>cG
  |_=>cG
 |_=>cG
noncomputable def w5 (xs:VA) (v:Value):Ct:=ef "list.__getitem__" (Bf xs v)
theorem wv (w:World) (P:KF) (xs:VA) (v:Value):cT pg w (KP w P) (w5 xs v):=bH _ w P
noncomputable abbrev F7 (xs:VA) (v:Value):dQ w P:=⟨w5 xs v,wv w P xs v⟩
open PySem.SeqAt in
noncomputable def D0 (as:List Value) (l:List Nat) (e:LE):CX "tuple.__ne__" as e:=match as with
 |[p,q]=>match p with
  |.ref a=>match q with
   |.ref b=>cH e l a λ j2 a' o l2 hj=>jz ⟨λ _=>.ok (.ret (.bool false)),λ _=>e.own,[.v (.ref a) (.ref a'),.v (.ref b) (.ref a),.o o (aU (ad o) (ao o))],[]⟩ λ w P hq ho H F' h g d t os R L hp x=>by
    have e1:a=a':=bz (hq _ (.head _))
    have e3:b=a:=bz (hq _ bU)
    have e2:o=aU (ad o) (ao o):=hq _ fG
    subst e1 e3
    have hl:=LE.get L hp hj
    rw [e2] at hl
    refine bw F.slot_tuple_ne.plain F.entry_tuple_ne (tuple_neAt b b _ _ _ _ none none #[] #[] (λ _=>true)) ⟨hl,hl,λ j h1 h2=>.same _,?_⟩
    have z:=x id h g t (λ _=>rfl) L
    rw [Nat.min_self,jK]
    simpa using z
   |_=>cG
  |_=>cG
 |_=>cG
noncomputable def Dg:Ct:=ef "tuple.__ne__" D0
theorem yH (w:World) (P:KF):cT pg w (KP w P) Dg:=bH _ w P
noncomputable abbrev H7:dQ w P:=⟨Dg,yH w P⟩
noncomputable abbrev NN:=Nat→Nat
noncomputable def dD (qs:List NN):VA:=(qs.map λ q=>Value.ref (q 0)).toArray
noncomputable def bF (fm:Nat→NN→aq) (qs:List NN):aq:=(qs.mapIdx fm).reverse.flatten
theorem ka (qs:List NN) (q:NN):dD (qs++[q])=(dD qs).push (.ref (q 0)):=by unfold dD;simp
theorem oB (fm:Nat→NN→aq) (qs:List NN) (q:NN):bF fm (qs++[q])=fm qs.length q++bF fm qs:=by
 unfold bF
 rw [List.mapIdx_append]
 simp
theorem j1 (qs:List NN):(dD qs).size=qs.length:=by unfold dD;simp
noncomputable def cm (z:NN) (n:Nat):List NN:=(List.range n).map λ k j=>z (10+(j * n+k))
theorem jp (z:NN) (n:Nat):(cm z n).length=n:=by simp [cm]
theorem p6 (z:NN) (n:Nat) (h:k < n):(cm z n)[k]'(by rw [jp];exact h)=λ j=>z (10+(j * n+k)):=by simp [cm]
theorem qo (qs:List NN) (f:NN):∃ z,cm z qs.length=qs∧∀ k,k < 10→z k=f k:=by
 refine ⟨λ i=>if i < 10 then f i else (qs.getD ((i - 10) % qs.length) id) ((i - 10) / qs.length),?_,λ k hk=>by simp [hk]⟩
 apply du
 ·rw [jp]
 ·intro k h1 h2
  funext j
  rw [p6 _ _ h2]
  have e1:¬ 10+(j * qs.length+k) < 10:=by lia
  show (if 10+(j * qs.length+k) < 10 then _ else _)=_
  rw [if_neg e1,Nat.add_sub_cancel_left]
  have e2:(j * qs.length+k) % qs.length=k:=by rw [Nat.mul_comm,Nat.mul_add_mod,Nat.mod_eq_of_lt h2]
  have e3:(j * qs.length+k) / qs.length=j:=by
   rw [Nat.mul_comm,Nat.mul_add_div (by lia),Nat.div_eq_of_lt h2,Nat.add_zero]
  rw [e2,e3]
  simp [hW,h2]
structure CG where
 cells:List (Str×Addr)
 q:Str
 ck:Addr
 fr:Addr
 old:aq
 pf:aq
 fm:Nat→NN→aq
 obs:List Prop
variable {q:Str}{old pf:aq}{ck:Addr}
noncomputable def zK (w:World) (P:KF) (A:Around) (e:PySem.Expr) (x:Str) (n:Nat) (it acc gf:Addr) (env:Env) (old:aq) (fm:Nat→NN→aq):Prop:=
 ∀ (H:Heap) (R:RP) (dr:Drawn) (os:OsState) (i:Nat),i < n→∀ (ys:VA) (nw:aq) (an fn:Nat) (js:List (Str×Tok×Value)) (h:Heap) (g:BG) (t:Nat),ys.size≤i→Js x js→
  ag (KP w P) H h [it,acc,gf] ([(it,c8 i ((n:Int) - i) 1),(acc,ab ys an),(gf,aJ w js fn)]++nw) old→
   (∀ (h':Heap) (g':BG) (t':Nat) (q:NN) (an' fn':Nat) (tj uj:Tok),ag (KP w P) H h' [it,acc,gf] ([(it,c8 (i+1:Nat) ((n:Int) - (i+1:Nat)) 1),(acc,ab (ys.push (.ref (q 0))) an'),(gf,aJ w [en x tj (.int i uj)] fn')]++(fm i q++nw)) old→
    codeAny (model pg w) A (.compLoop e 0 (.ref it) (.ref acc) env) R ⟨h',g',dr,t',os⟩)→codeAny (model pg w) A (.compLoop e 0 (.ref it) (.ref acc) env) R ⟨h,g,dr,t,os⟩
noncomputable def DX (w:World) (dp un:Nat) (e:PySem.Expr) (x:Str) (n:Nat) (asks:BC) (cf:List (Addr×Obj)→CG):Sp:=⟨dp,un,false,
 λ c fd=>ew (xC c) ((0,λ _=>nQ c)::(0,λ _=>j5 c)::(0,λ _=>(iK c).locals)::asks) fd,
 λ c fd=>⟨.compStart e 0 (.ref (aT fd 0)) (.ref (aT fd 1)) (hV e (aT fd 2) (cf fd).cells (cf fd).q (cf fd).ck (cf fd).fr),
  [(aT fd 0,c8 ((0:Nat):Int) ((n:Int) - ((0:Nat):Int)) 1),(aT fd 1,ab #[] (ao (az fd 1))),(aT fd 2,aJ w [] (mM (az fd 2)))],(cf fd).old,(cf fd).pf,
  λ _=>.ok .next,
  λ z=>[c8 n ((n:Int) - n) 1,ab (dD (cm z n)) (z 0),aJ w (Bm x n (z 1) (.int ((n - 1:Nat):Int) (z 2))) (z 3)],
  λ _=>[],λ z=>bF (cf fd).fm (cm z n),(cf fd).obs⟩⟩
theorem u0 (hdp:dp≤950) (hun:un≤6000) {x:Str}{n:Nat}{cf:List (Addr×Obj)→CG}(he:e=iU e)
  (ok:∀ fd,(∀ y∈(cf fd).obs,y)→(∀ p∈(cf fd).pf,KP w P p.1=some p.2)→zK w P ⟨none,dp,none,none,un⟩ e x n (aT fd 0) (aT fd 1) (aT fd 2) (hV e (aT fd 2) (cf fd).cells (cf fd).q (cf fd).ck (cf fd).fr) (cf fd).old (cf fd).fm):
  bO w (KP w P) (DX w dp un e x n asks cf):=by
 rintro c fd r rfl hc ho
 refine ⟨λ z=>rfl,λ h g d t os R L hp kx=>?_⟩
 have iX:=ok fd ho hp
 refine lY (j3 hdp hun) (x:=x) (λ i ys nw=>∃ qs,qs.length=i∧ys=dD qs∧nw=bF (cf fd).fm qs) he ⟨[],rfl,rfl,rfl⟩ L ?_ ?_
 ·rintro i hi ys nw an fn js h g t ⟨qs,rfl,rfl,rfl⟩ hj L' k
  refine iX _ _ _ _ qs.length hi _ _ an fn js h g t (by rw [j1];lia) hj L' λ h' g' t' q an' fn' tj uj L2=>?_
  refine k h' g' t' _ _ an' fn' tj uj ⟨qs++[q],by simp,rfl,rfl⟩ ?_
  rw [ka,oB]
  exact L2
 ·rintro h' g' t' ys nw an fn js u ⟨qs,h1,rfl,rfl⟩ hj L'
  obtain ⟨tj,rfl⟩:=hj.is
  subst h1
  obtain ⟨z,hz,hz'⟩:=qo qs (λ k=>match k with|0=>an|1=>tj|2=>u|_=>fn)
  refine kx z h' g' t' (λ e=>by cases e) ?_
  show ag _ _ _ _ ([(_,_),(_,ab (dD (cm z qs.length)) (z 0)),(_,aJ w (Bm _ qs.length (z 1) (.int ((qs.length - 1:Nat):Int) (z 2))) (z 3))]++([]++bF (cf fd).fm (cm z qs.length))) _
  rw [hz,hz' 0 (by omega),hz' 1 (by omega),hz' 2 (by omega),hz' 3 (by omega)]
  exact L'
noncomputable def BJ (n:Nat) (as:List Value) (l:List Nat) (e:LE):wX "len" as e:=match as with
 |[p]=>match p with
  |.ref a=>cH e l a λ i a' o _ hi=>jz ⟨λ z=>.ok (.ret (.int (n:Int) (z 0))),λ _=>e.own,[.v (.ref a) (.ref a'),.o o (ab (ad o) (ao o))],[(ad o).size≤1000,(ad o).size=n]⟩ λ w P hq ho H F' h g d t os R L hp x=>
   s8 hi w P hq (aa (ho _ (.head _)) ae) H F' h g d t os R L hp (by rw [show (ad o).size=n from ho _ bU];exact x)
  |_=>cG
 |_=>cG
noncomputable def xl (n:Nat):Ct:=ff "len" (BJ n)
theorem vK (w:World) (P:KF) (n:Nat):cT pg w (KP w P) (xl n):=cw _ w P
noncomputable abbrev y7 (n:Nat):dQ w P:=⟨xl n,vK w P n⟩
noncomputable def Cr (x:Str) (k:Int) (c:Nat):dQ w P:=⟨sk "str.__getitem__" (λ as=>match as with
 |[p,q]=>match p with
  |.str x' _=>match q with
   |.int k' _=>some ⟨.s ⟨#[c]⟩,[.v (.str x' 0) (.str x 0),.v (.int k' 0) (.int k 0)],[0≤k∧k < 2 ^ 63,(seqIndex? k x.length).bind (x.cps[·]?)=some c]⟩
   |_=>none
  |_=>none
 |_=>none),
 eA w P (F.slot_str_getitem).plain F.entry_str_getitem _ λ as r h hq hp=>by
  split at h
  ·split at h
   ·split at h
    ·rename_i x' t q' k' u
     cases h
     have e1:x'=x:=(Value.str.inj (hq _ (.head _))).1
     have e2:k'=k:=(Value.int.inj (hq _ bU)).1
     have h1:0≤k∧k < 2 ^ 63:=hp _ (.head _)
     have h2:(seqIndex? k x.length).bind (x.cps[·]?)=some c:=hp _ bU
     subst e1 e2
     exact gives_str_getitem x' k' t u c (by
      have a1:¬ k' < -(2 ^ 63:Int):=by lia
      have a2:¬ k'≥2 ^ 63:=by lia
      rw [decide_eq_false a1,decide_eq_false a2];rfl) h2
    ·cases h
   ·cases h
  ·cases h⟩
theorem ag.kept {F:List Addr}{own:aq}(L:ag K H h F own old) (k:∀ b o,h.get? b=some o→h'.get? b=some o):ag K H h' F own old:=
 L.after0 (new:=[]) ⟨λ b o _ e=>k b o e,(λ p hp=>nomatch hp),List.nodup_nil⟩
theorem ag.keptN {F:List Addr}{own:aq}(L:ag K H h F own old) (k:∀ b o,h.get? b=some o→h'.get? b=some o) {D:Addr}{o:Obj}(hD:h.objs.size≤D) (e:h'.get? D=some o):ag K H h' F ((D,o)::own) old:=
 L.after0 (new:=[(D,o)]) ⟨λ b o _ e=>k b o e,(λ p hp=>by rw [ci.mp hp];exact ⟨e,Heap.get?_none_of_le hD⟩),by simp⟩
noncomputable def ey (xs:VA) (ns:List Int):Prop:=∃ ys:Array (Int×Tok),xs=intItems ys∧ys.toList.map (·.1)=ns
theorem nJ (ys:Array (Int×Tok)):∀ k,k≤ys.size→preSum (numAt ys) k=((ys.toList.map (·.1)).take k).sum
 |0,_=>by simp [preSum]
 |k+1,h=>by
  show preSum (numAt ys) k+numAt ys k=_
  rw [nJ ys k (by lia),List.take_add_one]
  have hk:k < ys.size:=h
  simp [numAt,hk]
theorem nv {A:Around}{id:String}{b:Builtin}(hk:builtinKind id=none) (hp:plainId id=true)
  (hb:entryFor table id=some b) (ha:argsOk id ⟨args,[]⟩)
  (hc:wpAny (model prog w) A.in1 (b ⟨args,[]⟩) (λ fin s'=>match fin with
   |.done f=>R (.ok f) s'
   |.again c'=>c'.quiet=true∧codeAny (model prog w) A c' R s') (λ e s'=>R (.error e) s') s):codeAny (model prog w) A (.call (.builtin id) ⟨args,[]⟩) R s:=by
 refine codeAny_call_builtin hp hb ?_
 simp only [checkBuiltinCall,hk]
 cases hsig:Manifest.signature? id with
 |none=>exact aA hc
 |some sig=>
  simp only [argsOk,hsig] at ha
  have h2:Bind.checkArgs id sig ⟨args,[]⟩=pure ():=ha
  show wpAny _ A.in1 (Bind.checkArgs id sig ⟨args,[]⟩) _ _ s
  rw [h2];exact aA hc
section
variable {A:Around}{t:Nat}
theorem Aa {n:Nat}{ys:Array (Int×Tok)}(hh:A.handled=none) (hl:h.get? a=some (ab (intItems ys) n))
  (x:∀ h' t' u,(∀ b o,h.get? b=some o→h'.get? b=some o)→R (.ok (.ret (.int (ys.toList.map (·.1)).sum u))) ⟨h',g,d,t',os⟩):codeAny (model pg w) A (.call (.builtin "sum") ⟨[.ref a],[]⟩) R ⟨h,g,d,t,os⟩:=by
 have hA:A.in1.handled=none:=hh
 have e0:preSum (numAt ys) (intItems ys).size=(ys.toList.map (·.1)).sum:=by
  have e1:(intItems ys).size=ys.size:=by simp [intItems]
  rw [e1,nJ ys ys.size (Nat.le_refl _),List.take_of_length_le (by simp)]
 refine nv F.kind_sum F.plain_sum F.entry_sum (F.args_sum1 _) ?_
 unfold Builtin.«sum»
 simp only [List.length_cons,List.length_nil]
 rw [if_neg (by decide)]
 refine af (wpAny_of_eq (show Builtin.Builtins.bindParams "sum" ["start"] 0 { }=pure [none] from rfl) ?_)
 refine af (iter_intList (xs:=ys) ⟨_,hl,rfl,_,rfl⟩ λ s₂ e st hfp hlI=>?_)
 have kp:∀ h':Heap,(∀ b o,b∉[h.objs.size]→s₂.heap.get? b=some o→h'.get? b=some o)→∀ b o,h.get? b=some o→h'.get? b=some o:=λ h' hk=>old_kept (s:=⟨h,g,d,t,os⟩) (l:=a) (by obtain rfl:=e.symm;exact hk)
 refine af (wpAny_mkInt ?_)
 refine af (aA ?_)
 simp only [List.forIn_cons,List.forIn_nil]
 refine af (af (af (wpAny_isInstance (T:="int") (b:=false) (typeIs_int _ _ _) PySem.sub_int_str ?_)))
 simp only [Bool.false_eq_true,if_false]
 refine aA (af (af (wpAny_isInstance (T:="int") (b:=false) (typeIs_int _ _ _) PySem.sub_int_bytes ?_)))
 simp only [Bool.false_eq_true,if_false]
 refine aA (af (af (wpAny_isInstance (T:="int") (b:=false) (typeIs_int _ _ _) PySem.sub_int_bytearray ?_)))
 simp only [Bool.false_eq_true,if_false]
 refine aA (aA ?_)
 refine af (wpAny_newObj_type ?_)
 have hSf:s₂.heap.objs.size∉[h.objs.size,a]:=λ hm=>Nat.lt_irrefl _ (hfp _ hm)
 have W:=Walks.list (prog:=pg) (w:=w) (A:=A.in1) hA h.objs.size a hlI (intItems ys)
 refine aA ⟨plainId_quiet F.plain_sum_loop _,codeAny_sum_loopG W (numAt ys) (λ _ _=>intItems_at) s₂.heap.objs.size hSf _ 0 _ s₂.toks 0 0 (Or.inl rfl) rfl (Nat.zero_le _)
  (W.frame _ _ _ st λ b _ o e=>Heap.get?_push_of_some _ e) (Heap.get?_push_size _ rfl) λ h' tk t' hk=>?_⟩
 rw [e0]
 have z:=x h' tk t' (kp h' λ b o hbw e=>hk b o hbw (Nat.ne_of_lt (Heap.lt_size e)) (Heap.get?_push_of_some _ e))
 obtain rfl:=e.symm
 exact z
theorem Er {a b:Int}{u v:Tok}(hh:A.handled=none)
  (x:∀ h' t' y,(∀ b o,h.get? b=some o→h'.get? b=some o)→R (.ok (.ret (.int (if b < a then b else a) y))) ⟨h',g,d,t',os⟩):codeAny (model pg w) A (.call (.builtin "min") ⟨[.int a u,.int b v],[]⟩) R ⟨h,g,d,t,os⟩:=by
 have hA:A.in1.handled=none:=hh
 have hname:(toString "min"++toString ".loop":String)="min.loop":=by decide
 have hT:(h.push { cls:=.type "tuple",data:=.seq #[.int a u,.int b v] }).IsTuple h.objs.size (intItems #[(a,u),(b,v)]):=⟨_,Heap.get?_push_size _ rfl,rfl,0,by simp [intItems]⟩
 have hsz:(h.push { cls:=.type "tuple",data:=.seq #[.int a u,.int b v] }).objs.size=h.objs.size+1:=Heap.size_push ..
 refine nv F.kind_min F.plain_min F.entry_min (F.args_min2 _ _) ?_
 show wpAny _ A.in1 (Builtin.Builtins.bindParams "min" ["key","default"] 0 ⟨[],[]⟩>>=_) _ _ _
 refine af (wpAny_of_eq (show Builtin.Builtins.bindParams "min" ["key","default"] 0 ⟨[],[]⟩=pure [none,none] from rfl) ?_)
 show wpAny _ A.in1 (newTuple [.int a u,.int b v]>>=_) _ _ _
 refine af (wpAny_newObj_type ?_)
 refine af (wpAny_pyIter_tuple hT ?_)
 refine af (wpAny_newObj_type ?_)
 rw [hname]
 have W:=Walks.tuple (prog:=pg) (w:=w) (A:=A.in1) hA (h.objs.size+1) h.objs.size (Nat.ne_of_lt (Nat.lt_succ_self _)) (intItems #[(a,u),(b,v)])
 have hold:∀ h':Heap,(∀ c o,c∉[h.objs.size+1]→((h.push { cls:=.type "tuple",data:=.seq #[.int a u,.int b v] }).push { cls:=.type "tuple_iterator",data:=.fields #[.ref h.objs.size,.int 0 0] }).get? c=some o→h'.get? c=some o)→∀ c o,h.get? c=some o→h'.get? c=some o:=λ h' hk c o e=>by
  refine hk c o (λ hm=>?_) (Heap.get?_push_of_some _ (Heap.get?_push_of_some _ e))
  have:=Heap.lt_size e
  rw [ci.mp hm] at this;exact absurd this (Nat.not_lt_of_le (Nat.le_succ _))
 have hR:∀ (x1:Value) (h':Heap) (tk:Nat),(intItems #[(a,u),(b,v)])[argBest (λ i j=>decide (numAt #[(a,u),(b,v)] i < numAt #[(a,u),(b,v)] j)) ((intItems #[(a,u),(b,v)]).size - 1)]?=some x1→(∀ b o,h.get? b=some o→h'.get? b=some o)→R (.ok (.ret x1)) ⟨h',g,d,tk,os⟩:=λ x1 h' tk hP hk=>by
  have hsz2:(intItems #[(a,u),(b,v)]).size - 1=1:=by simp [intItems]
  rw [hsz2] at hP
  have z:=λ y=>x h' tk y hk
  by_cases hba:b < a
  ·have e:argBest (λ i j=>decide (numAt #[(a,u),(b,v)] i < numAt #[(a,u),(b,v)] j)) 1=1:=by simp [argBest,numAt,hba]
   rw [e] at hP
   have:x1=.int b v:=by simpa [intItems] using hP.symm
   obtain rfl:=this.symm
   have:=z v
   rw [if_pos hba] at this;exact this
  ·have e:argBest (λ i j=>decide (numAt #[(a,u),(b,v)] i < numAt #[(a,u),(b,v)] j)) 1=0:=by simp [argBest,numAt,hba]
   rw [e] at hP
   have:x1=.int a u:=by simpa [intItems] using hP.symm
   obtain rfl:=this.symm
   have:=z u
   rw [if_neg hba] at this;exact this
 have hS2:((h.push { cls:=.type "tuple",data:=.seq #[.int a u,.int b v] }).push { cls:=.type "tuple_iterator",data:=.fields #[.ref h.objs.size,.int 0 0] }).objs.size=h.objs.size+2:=by rw [Heap.size_push,hsz]
 refine aA ⟨plainId_quiet F.plain_min_loop _,?_⟩
 simp only [hsz]
 refine codeAny_min_loop_first W (λ i j=>decide (numAt #[(a,u),(b,v)] i < numAt #[(a,u),(b,v)] j)) (CmpOf.ints_lt (numAt #[(a,u),(b,v)]) (λ _ _=>intItems_at)) _ ?_ (by simp [intItems]) ?_ (Heap.get?_push_size _ rfl) λ v h' tk hP hk=>?_
 ·show ((h.push { cls:=.type "tuple",data:=.seq #[.int a u,.int b v] }).push _).objs.size∉_
  rw [Heap.size_push,hsz]
  exact λ hm=>by
    rcases bI.mp hm with e|hm
    ·exact absurd e (Nat.succ_ne_self _)
    ·exact absurd (ci.mp hm) (Nat.ne_of_gt (Nat.lt_succ_of_lt (Nat.lt_succ_self _)))
 ·have i1:((h.push { cls:=.type "tuple",data:=.seq #[.int a u,.int b v] }).push { cls:=.type "tuple_iterator",data:=.fields #[.ref h.objs.size,.int 0 0] }).IsTupleIter (h.objs.size+1) h.objs.size 0:=by
   rw [←hsz];exact ⟨_,Heap.get?_push_size _ rfl,rfl,rfl⟩
  exact W.frame 0 _ _ ⟨i1,hT.push _⟩ λ b _ o e=>Heap.get?_push_of_some _ e
 ·exact hR v h' tk hP (hold h' λ b o hbw e=>hk b o hbw (Nat.ne_of_lt (Heap.lt_size e)) (Heap.get?_push_of_some _ e))
theorem Bk {F:List Addr}{own:aq}{ls:Addr}(hI:IntsAre vs ns) (h64:vs.length < 64) (L:ag K H h F own old) (hl:h.get? ls=some (ab vs.toArray n0))
  (x:∀ h' D e (out:VA) (ns':List Int),IntsAre out.toList ns'→ns'.Perm ns→ns'.Pairwise (·≤·)→ag K H h' F ((D,ab out e)::own) old→R (.ok (.ret (.ref D))) ⟨h',g,d,t,os⟩):
  codeAny (model pg w) A (.call (.builtin "sorted") ⟨[.ref ls],[]⟩) R ⟨h,g,d,t,os⟩:=by
 refine kB kind_sorted plain_sorted entry_sorted (args_sorted1 _) ?_
 unfold Builtin.«sorted»
 refine af (m:=PySem.checkCount "sorted" 1 1 _) (aA ?_)
 refine af (collect_list ⟨_,hl,rfl,n0,rfl⟩ ?_)
 refine af (wpAny_newList ?_)
 have hsz:((h.push (seqObj "list" #[] 0)).update h.objs.size (Obj.mapSeq (·++vs.toArray))).objs.size=h.objs.size+1:=by
  rw [Heap.size_update,size_push']
 have hoL:(((h.push (seqObj "list" #[] 0)).update h.objs.size (Obj.mapSeq (·++vs.toArray))).push (seqObj "list" vs.toArray 0)).get? (h.objs.size+1)=some (seqObj "list" vs.toArray 0):=by
  rw [←hsz];exact Heap.get?_push_size _ rfl
 show wpAny _ _ _ _ _ ⟨((h.push (seqObj "list" #[] 0)).update h.objs.size (Obj.mapSeq (·++vs.toArray))).push (seqObj "list" vs.toArray 0),g,d,t,os⟩
 rw [hsz]
 refine af (wpAny_holding (wpAny_call_entry slot_list_sort ⟨_,hoL,rfl⟩ entry_list_sort (list_sort_tree hoL hI h64 λ out ns' a1 a2 a3=>⟨_,rfl,aA ⟨_,rfl,?_⟩⟩) (args_list_sort _)))
 obtain ⟨e,he⟩:=sortedAll_at h vs out
 exact x (sortedAll h vs out) _ e out ns' a1 a2 a3 (L.keptN (λ _ _=>sortedAll_old) (Nat.le_succ _) he)
end
section
open PySem.SeqAt
noncomputable def Cs (as:List Value) (l:List Nat) (e:LE):wX "list.__init__" as e:=match as with
 |[p,q]=>match p with
  |.ref a=>match q with
   |.ref b=>gR e l a λ i a' o l' hi=>cH e l' b λ j b' o' l2 hj=>jz ⟨λ _=>.ok (.ret .none),λ z=>e.own.set i (a',ab (ad o') (z 0)),
    [.v (.ref a) (.ref a'),.v (.ref b) (.ref b'),.o o (ab #[] 0),.o o' (ab (ad o') (ao o'))],[Nat.ble (ad o').size 1000=true,Nat.beq (ad o').size 0=false]⟩ λ w P hq ho H F' h g d t os R L hp x=>by
     have e1:a=a':=bz (hq _ (.head _))
     have e2:b=b':=bz (hq _ bU)
     have e3:o=ab #[] 0:=hq _ fG
     have e4:o'=ab (ad o') (ao o'):=hq _ jX
     have e5:(ad o').size≤1000:=bp (ho _ (.head _))
     have e6':Nat.beq (ad o').size 0=false:=ho _ bU
     subst e1 e2 e3
     have h1:=L.ownAt _ _ _ hi
     have h2:=LE.get L hp hj
     have e6:a≠b:=λ e=>by
      obtain rfl:=e.symm
      rw [h1] at h2
      rw [←bo h2] at e6'
      cases e6'
     have hT:(⟨h,g,d,t,os⟩:Shared).TypeIs (.ref a) "list":=⟨_,h1,rfl⟩
     refine codeAny_call_builtin (by kernel_rfl) F.entry_list_init (F.slot_list_init.check _ _ _ _ _ _ _ _ hT (F.args_list_init_2 _ _) ?_)
     refine PySem.wpAny_list_init_seq (o:=o') (T:="list") (items:=ad o') (n:=ao o') (hsz:=cP e5 (cP (by lia) bS)) a b (.inl rfl) (Ne.symm e6) h1 h2 (by rw [e4]) (by rw [e4];rfl) ?_
     have L1:=L.update (f:=Obj.mapSeq λ _=>(#[]:VA)) hi rfl rfl
     have hi1:=List.getElem?_set_self (a:=(a,Obj.mapSeq (λ _=>(#[]:VA)) (ab #[] 0))) (j0.mp hi).1
     have L2:=L1.update (f:=Obj.mapSeq (·++ad o')) hi1 rfl rfl
     rw [List.set_set] at L2
     have e7:Obj.mapSeq (·++ad o') (Obj.mapSeq (λ _=>(#[]:VA)) (ab #[] 0))=ab (ad o') (ao (Obj.mapSeq (·++ad o') (Obj.mapSeq (λ _=>(#[]:VA)) (ab #[] 0)))):=by
      simp [Obj.mapSeq,ao]
     rw [e7] at L2
     exact x (λ _=>ao (Obj.mapSeq (·++ad o') (Obj.mapSeq (λ _=>(#[]:VA)) (ab #[] 0)))) _ _ _ (λ _=>rfl) L2
   |_=>cG
  |_=>cG
 |_=>cG
noncomputable def xY:Ct:=ff "list.__init__" Cs
theorem wf (w:World) (P:KF):cT pg w (KP w P) xY:=cw _ w P
end
noncomputable abbrev F3:dQ w P:=⟨xY,wf w P⟩
noncomputable def Bz (xs:VA) (ns:List Int) (s:Int) (as:List Value) (l:List Nat) (e:LE):wX "sum" as e:=match as with
 |[p]=>match p with
  |.ref a=>cH e l a λ j a' o l' hi=>jz ⟨λ z=>.ok (.ret (.int s (z 0))),λ _=>e.own,[.v (.ref a) (.ref a'),.o o (ab xs (ao o))],[ey xs ns∧ns.sum=s]⟩ λ w P hq ho H F' h g d t os R L hp x=>by
   have e1:a=a':=bz (hq _ (.head _))
   have e2:o=ab xs (ao o):=hq _ bU
   obtain ⟨⟨ys,rfl,rfl⟩,e4⟩:=ho _ (.head _)
   obtain rfl:=e1.symm
   have hh:=LE.get L hp hi
   rw [e2] at hh
   refine Aa rfl hh λ h' t' u k=>?_
   rw [e4]
   exact x (λ _=>u) h' g t' (λ _=>rfl) (L.kept k)
  |_=>cG
 |_=>cG
noncomputable def w7 (xs:VA) (ns:List Int) (s:Int):Ct:=ff "sum" (Bz xs ns s)
theorem vr (w:World) (P:KF) (xs:VA) (ns:List Int) (s:Int):cT pg w (KP w P) (w7 xs ns s):=cw _ w P
noncomputable abbrev nr (xs:VA) (ns:List Int) (s:Int):dQ w P:=⟨w7 xs ns s,vr w P xs ns s⟩
noncomputable def CE (a b m:Int) (as:List Value) (l:List Nat) (e:LE):wX "min" as e:=match as with
 |[p,q]=>match p with
  |.int a' _=>match q with
   |.int b' _=>jz ⟨λ z=>.ok (.ret (.int m (z 0))),λ _=>e.own,[.v (.int a' 0) (.int a 0),.v (.int b' 0) (.int b 0)],[(if b < a then b else a)=m]⟩ λ w P hq ho H F' h g d t os R L hp x=>by
    rw [(Value.int.inj (hq _ (.head _))).1,(Value.int.inj (hq _ bU)).1]
    refine Er rfl λ h' t' u k=>?_
    rw [show (if b < a then b else a)=m from ho _ (.head _)]
    exact x (λ _=>u) h' g t' (λ _=>rfl) (L.kept k)
   |_=>cG
  |_=>cG
 |_=>cG
noncomputable def yo (a b m:Int):Ct:=ff "min" (CE a b m)
theorem vG (w:World) (P:KF) (a b m:Int):cT pg w (KP w P) (yo a b m):=cw _ w P
noncomputable abbrev FC (a b m:Int):dQ w P:=⟨yo a b m,vG w P a b m⟩
noncomputable def tm:dQ w P:=⟨sk "int.__mul__" (fF λ a b=>⟨.i (a * b),[],[IntMulOk a b]⟩),
 eA w P (F.slot_int_mul).plain F.entry_int_mul _ λ as r h hq hp=>by
  obtain ⟨a,t,b,u,rfl,rfl⟩:=de h
  exact AutoIntG1.int___mul___int_int_0 a t b u (hp _ (.head _))⟩
noncomputable def im (ns:List Int):List Int:=ns.mergeSort (λ a b=>decide (a≤b))
theorem mH {ns':List Int}(p:ns'.Perm ns) (o:ns'.Pairwise (·≤·)):ns'=im ns:=by
 refine PySem.W.ksm_same (p.trans (List.mergeSort_perm ns _).symm) o ?_
 have:=List.pairwise_mergeSort (le:=λ a b:Int=>decide (a≤b)) (λ a b c h1 h2=>by simp at *;lia) (λ a b=>by simp;lia) ns
 exact this.imp λ h=>by simpa using h
theorem iA:∀ {vs:List Value}{ns:List Int},IntsAre vs ns→∃ t:Nat→Tok,vs=(List.range ns.length).map λ i=>Value.int (ns.getD i 0) (t i)
 |_,_,.nil=>⟨λ _=>0,rfl⟩
 |_,_,.cons (vs:=vs) (ns:=ns) n t h=>by
  obtain ⟨f,e⟩:=iA h
  refine ⟨λ i=>match i with|0=>t|i+1=>f i,?_⟩
  rw [List.length_cons,List.range_succ_eq_map,List.map_cons,List.map_map,e]
  rfl
noncomputable def zJ (xs:VA) (ns:List Int) (as:List Value) (l:List Nat) (e:LE):wX "sorted" as e:=match as with
 |[p]=>match p with
  |.ref a=>cH e l a λ j a' o l' hi=>jz ⟨λ z=>.ok (.ret (.ref (z 0))),λ z=>(z 0,ab (ah ns.length (λ i=>(im ns).getD i 0) (λ i=>z (10+i))) (z 1))::e.own,[.v (.ref a) (.ref a'),.o o (ab xs (ao o))],[IntsAre xs.toList ns∧ns.length < 64]⟩ λ w P hq ho H F' h g d t os R L hp x=>by
   have e1:a=a':=bz (hq _ (.head _))
   have e2:o=ab xs (ao o):=hq _ bU
   obtain ⟨hI,h64⟩:=ho _ (.head _)
   obtain rfl:=e1.symm
   have hh:=LE.get L hp hi
   rw [e2] at hh
   have hl:=hI.length
   refine Bk (vs:=xs.toList) hI (by lia) L hh λ h' D e' out ns' a1 a2 a3 L'=>?_
   obtain ⟨tk,e5⟩:=iA a1
   have e6:out=ah ns.length (λ i=>(im ns).getD i 0) tk:=by
    rw [←Array.toArray_toList (xs:=out),e5,a2.length_eq,mH a2 a3]
    rfl
   rw [e6] at L'
   refine x (λ i=>match i with|0=>D|1=>e'|i=>tk (i - 10)) h' g t (λ _=>rfl) ?_
   have e7:(λ i=>(λ i=>match i with|0=>D|1=>e'|i=>tk (i - 10)) (10+i))=tk:=by
    funext i
    show (match 10+i with|0=>D|1=>e'|i=>tk (i - 10))=tk i
    split
    ·lia
    ·lia
    ·congr 1;lia
   show ag _ _ _ _ ((D,ab (ah _ _ (λ i=>(λ i=>match i with|0=>D|1=>e'|i=>tk (i - 10)) (10+i))) e')::_) _
   rw [e7]
   exact L'
  |_=>cG
 |_=>cG
noncomputable def uE (xs:VA) (ns:List Int):Ct:=ff "sorted" (zJ xs ns)
theorem rd (w:World) (P:KF) (xs:VA) (ns:List Int):cT pg w (KP w P) (uE xs ns):=cw _ w P
noncomputable abbrev Ej (xs:VA) (ns:List Int):dQ w P:=⟨uE xs ns,rd w P xs ns⟩
section
variable {A:Around}{t:Nat}{l sl:Addr}{items:VA}{n:Nat}{u:Tok}
noncomputable abbrev E5 (u:Tok):Obj:=⟨.type "slice",none,.fields #[.none,.none,.int (-1) u],#[]⟩
theorem sa (hl:h.get? l=some (ab items n)) (hos:h.get? sl=some (E5 u)) (hsz:items.size≤sizeLine) (zs:VA) (hz:slicePick items none none (some (-1))=zs)
  (x:∀ (a:Addr) (h':Heap),(∀ K H F own old,ag K H h F own old→ag K H h' F ((a,ab zs 0)::own) old)→R (.ok (.ret (.ref a))) ⟨h',g,d,t,os⟩):
  codeAny (model pg w) A (.builtin "list.__getitem__" ⟨[.ref l,.ref sl],[]⟩) R ⟨h,g,d,t,os⟩:=by
 have hTs:(⟨h,g,d,t,os⟩:Shared).TypeIs (.ref sl) "slice":=⟨_,hos,rfl⟩
 refine dt entry_list_getitem ?_
 show wpAny _ _ (Builtin.List.listSubscript? (.ref sl)>>=_) _ _ _
 refine af ?_
 unfold Builtin.List.listSubscript?
 refine af (wpAny_specialOf hTs slice_no_index ?_)
 simp only [Option.isNone_none,if_true]
 refine aA ?_
 show wpAny _ _ (typeOf (.ref sl)>>=_) _ _ _
 refine af (wpAny_typeOf hTs ?_)
 rw [if_neg (by decide)]
 show wpAny _ _ (Builtin.List.listSliceParts (.ref sl)>>=_) _ _ _
 rw [listSliceParts_eq]
 refine af (af (wpAny_field hos rfl (x:=.int (-1) u) rfl (af (wpAny_listPart (IsPart.int (-1) u) ?_))))
 rw [if_neg (by decide)]
 refine af (wpAny_field hos rfl (x:=.none) rfl (af (wpAny_listPart IsPart.none ?_)))
 refine af (wpAny_field hos rfl (x:=.none) rfl (af (wpAny_listPart IsPart.none (aA ?_))))
 refine af (m:=Builtin.List.listItems (.ref l)) ?_
 unfold Builtin.List.listItems
 refine af (wpAny_seqItems hl rfl (aA ?_))
 refine af (wpAny_of_eq (sliceIndices_raw none none (some (-1)) items.size (by simp)) ?_)
 obtain rfl:=hz.symm
 exact af (wpAny_newObj_type (aA (x _ _ λ _ _ _ _ _ L=>L.alloc rfl)) (cP (slicePick_size_le items none none (some (-1))) hsz))
end
noncomputable def EG (as:List Value) (l:List Nat) (e:LE):CX "list.__getitem__" as e:=match as with
 |[p,q]=>match p with
  |.ref a=>match q with
   |.ref b=>cH e l a λ i a' o l' hi=>cH e l' b λ j b' s l2 hj=>jz ⟨λ z=>.ok (.ret (.ref (z 0))),λ z=>(z 0,ab (ad o).toList.reverse.toArray 0)::e.own,
     [.v (.ref a) (.ref a'),.v (.ref b) (.ref b'),.o o (ab (ad o) (ao o)),.o s (E5 (bE (bm s 2)))],[(ad o).size≤1000]⟩ λ w P hq ho H F' h g d t os R L hp x=>by
    have e1:a=a':=bz (hq _ (.head _))
    have e2:b=b':=bz (hq _ bU)
    have e3:o=ab (ad o) (ao o):=hq _ fG
    have e4:s=E5 (bE (bm s 2)):=hq _ jX
    have e5:(ad o).size≤1000:=ho _ (.head _)
    obtain rfl:=e1.symm;obtain rfl:=e2.symm
    have h1:=LE.get L hp hi
    have h2:=LE.get L hp hj
    rw [e3] at h1
    rw [e4] at h2
    refine sa (items:=ad o) h1 h2 (cP e5 (cP (by lia) bS)) (ad o).toList.reverse.toArray (PySem.W.krv_pick _) λ ra h' T=>?_
    exact x (λ _=>ra) _ _ _ (λ _=>rfl) (T _ _ _ _ _ L)
   |_=>cG
  |_=>cG
 |_=>cG
noncomputable def C1:Ct:=ef "list.__getitem__" EG
theorem xn (w:World) (P:KF):cT pg w (KP w P) C1:=bH _ w P
noncomputable abbrev HO:dQ w P:=⟨C1,xn w P⟩
section
variable {A:Around}
noncomputable def pb:PySem.Expr:=eh (iN 0)
theorem v3 (hD:c7 w P D) (hn:D.n≤6):jV w P AY pb "k" D.n it acc gf (fR pb gf [("rows",D.N+3),("nails",D.N+4),("left",D.N+6)] D.N) [it,acc,gf] [(D.lf,ab (ah D.n (λ k=>(l k:Int)) t) lv)] (λ l=>l=[]) (ca λ i q=>.ref q.1) (λ i q=>[(q.1,ab (D.pts l i) q.2.1)]):=by
 intro H R dr os i hi ys ex nw an fn js h g tt hx hy hj L k
 subst hx
 obtain ⟨N,hN⟩:=bd h
 have hpf:=f9 hD.c3 (f9 hD.c4 (f9 hD.c6 (f9 hD.rl (f9 hD.nl (f9 (hD.row i hi) am)))))
 obtain ⟨w,c,rfl⟩:=cB w
 refine dv [b9 i D.n,aN,d5 (bk D.n D.rw) i (.ref (D.rw i)),d5 D.nA i (.int (D.na i) (D.nt i)),d5 (ah D.n (λ k=>(l k:Int)) t) i (.int (l i) (t i)),gK] hpf [U,.e,U,.c 0 [0],aj,aj,aL,aj,iD,iD,iD,.e,iD,.c 2 [2003],bY,aj,ib,ib,ib,.e,ib,.c 3 [2004],o8,aj,aD,aD,aD,.e,aD,.c 4 [1000],.e,.e,gF,gF,gF,.e,gF,.c 5 [2005,0],.e,.e,cS,.c 1 [3],.s] L hN λ ps=>?_
 refine aC AY [2,3,4,0] 5 nw (λ W=>⟨.compLoop pb 0 (.ref it) (.ref acc) (fR pb gf [("rows",D.N+3),("nails",D.N+4),("left",D.N+6)] D.N),true,none,[(it,kX (i+1) D.n),(acc,ab (ys.push (.ref ((ps 4).6 0))) ((ps 5).6 0)),(gf,aJ w [("k",g7 js ((ps 0).4),.int ((↑i:Int)) ((ps 0).6 0))] (g0 js fn)),((ps (nat_lit 4)).6 (nat_lit 0),ab ((List.take ((↑(D.na i):Int)+(↑(l i):Int)).toNat (D.row i).toList).toArray) 0)],[ys.size≤(1000:Nat),(D.row i).size≤(1000:Nat)∧(0:Int)≤(↑(D.na i):Int)+(↑(l i):Int),iz (↑i:Int),(ah D.n (λ k=>(↑(l k):Int)) t)[(↑i:Int).toNat]?=some (Value.int (↑(l i):Int) (t i)),iz (↑i:Int),D.nA[(↑i:Int).toNat]?=some (Value.int (↑(D.na i):Int) (D.nt i)),iz (↑i:Int),(bk D.n D.rw)[(↑i:Int).toNat]?=some (Value.ref (D.rw i)),i < D.n]⟩) rfl (by apply jq hj c;kernel_rfl) (by decide) rfl rfl rfl rfl rfl ?_ λ h' g' t' L'=>?_
 ·repeat' first|exact ae|refine aa ?_ ?_
  all_goals first
   |lia
   |exact ⟨by lia,by lia⟩
   |exact aG hi
   |exact bK hi
   |exact ⟨EX hD hi,by lia⟩
 exact k h' g' t' (_,_,0) _ _ _ _ [] rfl L'
noncomputable def yN (w:World) (P:KF) (D:PD) (l:Nat→Nat):Sp:=mU w 600 2000 pb "k" D.n [(1,λ fd=>D.lf)] (λ fd=>⟨[("rows",D.N+3),("nails",D.N+4),("left",D.N+6)],"_law_paired.<locals>.",153,D.N,[],[(D.lf,ab (ad (az fd 3)) (ao (az fd 3)))],[],λ _=>[],(ca λ i q=>.ref q.1),(λ i q=>[(q.1,ab (D.pts l i) q.2.1)]),[c7 w P D,wJ D l (ad (az fd 3)),D.n≤6]⟩)
theorem wn:bO w (KP w P) (yN w P D l):=by
 refine f5 (by decide) (by decide) (by kernel_rfl) (λ fd i q ys=>by simp) (λ fd z=>rfl) λ fd ho hp=>?_
 have h0:=ho _ (.head _)
 have h1:=ho _ bU
 have h2:=ho _ fG
 obtain ⟨t,h1⟩:=h1
 dsimp only at h1⊢
 rw [h1]
 exact ⟨_,bT rfl rfl,v3 h0 h2⟩
noncomputable def mI:PySem.Expr:=eh (iN 1)
theorem rE (hD:c7 w P D) (hP:kQ w P D l) (hn:D.n≤6):fq w P AY mI "point" (bk D.n D.pt) D.pl it acc gf (fR mI gf [("turn",D.N+7)] D.N) [it,acc,gf,92] [(D.N+7,ak (.int T tk))] BO (ca λ i q=>.int (l i) q.1) nF:=by
 intro H R dr os i v hv ys ex nw an fn js h g tt hx hy hj L k
 obtain ⟨hi,rfl⟩:=jo hv
 obtain ⟨o92,rfl,ho92⟩:=hx
 obtain ⟨N,hN⟩:=bd h
 have hpf:=f9 hD.pl am
 obtain ⟨w,c,rfl⟩:=cB w
 refine dv [dl (bk D.n D.pt) i (.ref (D.pt i)),aN,c0 (uS _ P (D.pt i) (D.pts l i) (D.pc i) (l i)) ry] hpf [U,.e,U,.c 0 [0,2000],aj,aj,.k,aj,aD,.e,.e,.k,.c 2 [3],.e,ay,.c 1 [1],.s] L hN λ ps=>?_
 refine aC AY [0,1,2,3] 4 (nw++[]) (λ W=>⟨.compLoop mI 0 (.ref it) (.ref acc) (fR mI gf [("turn",D.N+7)] D.N),true,none,[(it,i4 D.4 (i+1)),(acc,ab (ys.push (.int ((↑(l i):Int)) ((ps 1).6 1))) ((ps 2).6 0)),(gf,aJ w [("point",g7 js ((ps 0).4),.ref (D.14 i))] (g0 js fn)),(92,mP 61 19 ((ps 1).6 0))],[ys.size≤(1000:Nat),al (61:Int) (19:Int) o92,hZ W P (D.pt i) (D.pts l i) (D.pc i),bM (bL (D.pc i)) (D.pts l i).size=l i,l i < (6:Nat),(bk D.n D.pt)[i]?=some (Value.ref (D.pt i))]⟩) rfl (by apply jq hj c;kernel_rfl) (by decide) rfl rfl rfl rfl rfl ?_ λ h' g' t' L'=>?_
 ·repeat' first|exact ae|refine aa ?_ ?_
  all_goals first
   |lia
   |exact ⟨by lia,by lia⟩
   |exact bK hi
   |exact ho92
   |exact hP.pt i hi
   |exact hP.tot i hi
   |exact hP.l6 i hi
   |exact hb i hi
 simp only [aX] at L'
 exact k h' g' t' (_,0,0) _ _ _ _ ⟨_,rfl,jA _⟩ L'
noncomputable def ug (w:World) (P:KF) (D:PD) (l:Nat→Nat) (T:Int):Sp:=ii w 600 2000 mI "point" [(0,λ fd=>92),(1,λ fd=>D.N+7)] (λ fd=>D.pl) (λ fd=>(bk D.n D.pt)) D.n (λ fd=>⟨[("turn",D.N+7)],"_law_paired.<locals>.",153,D.N,[(92,az fd 3)],[(D.N+7,ak (.int T (bE (fT (az fd 4)))))],[],λ z=>[dz 61 19 (z 4) (z 5)],(ca λ i q=>.int (l i) q.1),nF,[al 61 19 (az fd 3),c7 w P D,kQ w P D l,D.n≤6]⟩)
theorem rt:bO w (KP w P) (ug w P D l T):=by
 refine cC (by decide) (by decide) (by kernel_rfl) (λ fd i q ys=>by simp) (λ fd z=>rfl) λ fd ho hp=>?_
 have h0:=ho _ (.head _)
 have h1:=ho _ bU
 have h2:=ho _ fG
 have h3:=ho _ jX
 exact ⟨_,ab (bk D.n D.pt) D.plv,eL,.inr h1.pl,xG rfl h0 rfl,rE h1 h2 h3⟩
noncomputable def qI:PySem.Expr:=eh (iN 2)
theorem vi (hD:c7 w P D) (hP:kQ w P D l) (hn:D.n≤6) (hb:∀ k,k < D.n→Nat.blt 0 (l k)=fb k):fq w P AY qI "point" (bk D.n D.pt) D.pl it acc gf (fR qI gf [] D.N) [it,acc,gf,92] [] BO (ca λ i q=>.bool (fb i)) nF:=by
 intro H R dr os i v hv ys ex nw an fn js h g tt hx hy hj L k
 obtain ⟨hi,rfl⟩:=jo hv
 obtain ⟨o92,rfl,ho92⟩:=hx
 obtain ⟨N,hN⟩:=bd h
 have hpf:=f9 hD.pl am
 obtain ⟨w,c,rfl⟩:=cB w
 refine dv [dl (bk D.n D.pt) i (.ref (D.pt i)),aN,c0 (pT _ P (D.pt i) (D.pts l i) (D.pc i) (l i) (fb i)) qQ] hpf [U,.e,U,.c 0 [0,2000],aj,aj,.k,aj,.k,.c 2 [3],.e,ay,.c 1 [1],.s] L hN λ ps=>?_
 refine aC AY [0,1,2,3] 4 (nw++[]) (λ W=>⟨.compLoop qI 0 (.ref it) (.ref acc) (fR qI gf [] D.N),true,none,[(it,i4 D.4 (i+1)),(acc,ab (ys.push (.bool (fb i))) ((ps 2).6 0)),(gf,aJ w [("point",g7 js ((ps 0).4),.ref (D.14 i))] (g0 js fn)),(92,mP 61 19 ((ps 1).6 0))],[ys.size≤(1000:Nat),al (61:Int) (19:Int) o92,hZ W P (D.pt i) (D.pts l i) (D.pc i),bM (bL (D.pc i)) (D.pts l i).size=l i,l i < (6:Nat),Nat.blt (0:Nat) (l i)=fb i,(bk D.n D.pt)[i]?=some (Value.ref (D.pt i))]⟩) rfl (by apply jq hj c;kernel_rfl) (by decide) rfl rfl rfl rfl rfl ?_ λ h' g' t' L'=>?_
 ·repeat' first|exact ae|refine aa ?_ ?_
  all_goals first
   |lia
   |exact ⟨by lia,by lia⟩
   |exact bK hi
   |exact ho92
   |exact hP.pt i hi
   |exact hP.tot i hi
   |exact hP.l6 i hi
   |exact hb i hi
 simp only [aX] at L'
 exact k h' g' t' (0,0,0) _ _ _ _ ⟨_,rfl,jA _⟩ L'
noncomputable def xM (w:World) (P:KF) (D:PD) (l:Nat→Nat) (fb:Nat→Bool):Sp:=ii w 600 2000 qI "point" [(0,λ fd=>92)] (λ fd=>D.pl) (λ fd=>(bk D.n D.pt)) D.n (λ fd=>⟨[],"_law_paired.<locals>.",153,D.N,[(92,az fd 3)],[],[],λ z=>[dz 61 19 (z 4) (z 5)],(ca λ i q=>.bool (fb i)),nF,[al 61 19 (az fd 3),c7 w P D,kQ w P D l,D.n≤6,∀ k,k < D.n→Nat.blt 0 (l k)=fb k]⟩)
theorem vI:bO w (KP w P) (xM w P D l fb):=by
 refine cC (by decide) (by decide) (by kernel_rfl) (λ fd i q ys=>by simp) (λ fd z=>rfl) λ fd ho hp=>?_
 have h0:=ho _ (.head _)
 have h1:=ho _ bU
 have h2:=ho _ fG
 have h3:=ho _ jX
 have h4:=ho _ Ae
 exact ⟨_,ab (bk D.n D.pt) D.plv,eL,.inr h1.pl,xG rfl h0 rfl,vi h1 h2 h3 h4⟩
noncomputable def pH:PySem.Expr:=eh (iN 3)
theorem wk (hD:c7 w P D) (hP:kQ w P D l) (hn:D.n≤6) (hb:∀ k,k < D.n→Nat.beq (l k) 0=fb k):fq w P AY pH "point" (bk D.n D.pt) D.pl it acc gf (fR pH gf [] D.N) [it,acc,gf,92] [] BO (ca λ i q=>.bool (fb i)) nF:=by
 intro H R dr os i v hv ys ex nw an fn js h g tt hx hy hj L k
 obtain ⟨hi,rfl⟩:=jo hv
 obtain ⟨o92,rfl,ho92⟩:=hx
 obtain ⟨N,hN⟩:=bd h
 have hpf:=f9 hD.pl am
 obtain ⟨w,c,rfl⟩:=cB w
 refine dv [dl (bk D.n D.pt) i (.ref (D.pt i)),aN,c0 (yk _ P (D.pt i) (D.pts l i) (D.pc i) (l i) (fb i)) vX] hpf [U,.e,U,.c 0 [0,2000],aj,aj,.k,aj,.k,.c 2 [3],.e,ay,.c 1 [1],.s] L hN λ ps=>?_
 refine aC AY [0,1,2,3] 4 (nw++[]) (λ W=>⟨.compLoop pH 0 (.ref it) (.ref acc) (fR pH gf [] D.N),true,none,[(it,i4 D.4 (i+1)),(acc,ab (ys.push (.bool (fb i))) ((ps 2).6 0)),(gf,aJ w [("point",g7 js ((ps 0).4),.ref (D.14 i))] (g0 js fn)),(92,mP 61 19 ((ps 1).6 0))],[ys.size≤(1000:Nat),al (61:Int) (19:Int) o92,hZ W P (D.pt i) (D.pts l i) (D.pc i),bM (bL (D.pc i)) (D.pts l i).size=l i,l i < (6:Nat),(l i).beq (0:Nat)=fb i,(bk D.n D.pt)[i]?=some (Value.ref (D.pt i))]⟩) rfl (by apply jq hj c;kernel_rfl) (by decide) rfl rfl rfl rfl rfl ?_ λ h' g' t' L'=>?_
 ·repeat' first|exact ae|refine aa ?_ ?_
  all_goals first
   |lia
   |exact ⟨by lia,by lia⟩
   |exact bK hi
   |exact ho92
   |exact hP.pt i hi
   |exact hP.tot i hi
   |exact hP.l6 i hi
   |exact hb i hi
 simp only [aX] at L'
 exact k h' g' t' (0,0,0) _ _ _ _ ⟨_,rfl,jA _⟩ L'
noncomputable def xf (w:World) (P:KF) (D:PD) (l:Nat→Nat) (fb:Nat→Bool):Sp:=ii w 600 2000 pH "point" [(0,λ fd=>92)] (λ fd=>D.pl) (λ fd=>(bk D.n D.pt)) D.n (λ fd=>⟨[],"_law_paired.<locals>.",153,D.N,[(92,az fd 3)],[],[],λ z=>[dz 61 19 (z 4) (z 5)],(ca λ i q=>.bool (fb i)),nF,[al 61 19 (az fd 3),c7 w P D,kQ w P D l,D.n≤6,∀ k,k < D.n→Nat.beq (l k) 0=fb k]⟩)
theorem vJ:bO w (KP w P) (xf w P D l fb):=by
 refine cC (by decide) (by decide) (by kernel_rfl) (λ fd i q ys=>by simp) (λ fd z=>rfl) λ fd ho hp=>?_
 have h0:=ho _ (.head _)
 have h1:=ho _ bU
 have h2:=ho _ fG
 have h3:=ho _ jX
 have h4:=ho _ Ae
 exact ⟨_,ab (bk D.n D.pt) D.plv,eL,.inr h1.pl,xG rfl h0 rfl,wk h1 h2 h3 h4⟩
end
section
variable {A:Around}
noncomputable def jJ:PySem.Expr:=eh (iN 4)
theorem pJ {ls:Nat}(hn:D.n≤6) (hl:∀ k,k < D.n→l k < 6):fq w P AY jJ "size" (ah D.n (λ k=>(l k:Int)) t) ls it acc gf (fR jJ gf [] D.N) [it,acc,gf] [(ls,ab (ah D.n (λ k=>(l k:Int)) t) lv)] (λ l=>l=[]) (ca λ i q=>.int (-(l i:Int)) q.1) nF:=by
 intro H R dr os i v hv ys ex nw an fn js h g tt hx hy hj L k
 obtain ⟨hi,rfl⟩:=cW hv
 subst hx
 obtain ⟨N,hN⟩:=bd h
 obtain ⟨w,c,rfl⟩:=cB w
 refine dv [dl (ah D.n (λ k=>(l k:Int)) t) i (.int (l i) (t i)),aN,c0 (Dr _ P) w3] am [U,.e,U,.c 0 [0,1000],aj,aj,.k,aj,.k,.c 2 [],.e,ay,.c 1 [1],.s] L hN λ ps=>?_
 refine aC AY [0,1,2] 3 (nw++[]) (λ W=>⟨.compLoop jJ 0 (.ref it) (.ref acc) (fR jJ gf [] D.N),true,none,[(it,i4 ls (i+1)),(acc,ab (ys.push (.int (-((↑(l i):Int))) ((ps 1).6 0))) ((ps 2).6 0)),(gf,aJ w [("size",g7 js ((ps 0).4),.int ((↑(l i):Int)) (t i))] (g0 js fn))],[ys.size≤(1000:Nat),(↑(l i):Int).natAbs < (1000:Nat),(ah D.n (λ k=>(↑(l k):Int)) t)[i]?=some (Value.int (↑(l i):Int) (t i))]⟩) rfl (by apply jq hj c;kernel_rfl) (by decide) rfl rfl rfl rfl rfl ?_ λ h' g' t' L'=>?_
 ·repeat' first|exact ae|refine aa ?_ ?_
  all_goals first
   |omega
   |exact ⟨by omega,by omega⟩
   |exact aG hi
   |(have:=hl i hi;omega)
 simp only [aX] at L'
 exact k h' g' t' (_,0,0) _ _ _ [] rfl L'
noncomputable def qg (w:World) (P:KF) (D:PD) (l:Nat→Nat):Sp:=ii w 600 2000 jJ "size" [(1,λ fd=>mt (bm (az fd 0) 0))] (λ fd=>aT fd 3) (λ fd=>ad (az fd 3)) D.n (λ fd=>⟨[],"_law_paired.<locals>.",153,D.N,[],[(aT fd 3,ab (ad (az fd 3)) (ao (az fd 3)))],[],λ _=>[],(ca λ i q=>.int (-(l i:Int)) q.1),nF,[wJ D l (ad (az fd 3)),D.n≤6,∀ k,k < D.n→l k < 6]⟩)
theorem qE:bO w (KP w P) (qg w P D l):=by
 refine cC (by decide) (by decide) (by kernel_rfl) (λ fd i q ys=>by simp) (λ fd z=>rfl) λ fd ho hp=>?_
 have h0:=ho _ (.head _)
 have h1:=ho _ bU
 have h2:=ho _ fG
 obtain ⟨t,h0⟩:=h0
 dsimp only at h0⊢
 rw [h0]
 exact ⟨_,ab (ah D.n (λ k=>(l k:Int)) t) (ao (az fd 3)),au,.inl (.head _),bT rfl rfl,pJ h1 h2⟩
noncomputable def lU:PySem.Expr:=mJ (qU 1 (cO (iN 6)))
theorem qX {ls:Nat}(hn:D.n≤6) (hl:∀ k,k < D.n→l k < 6):fq w P AY lU "size" (ah D.n (λ k=>(l k:Int)) t) ls it acc gf (fR lU gf [] D.N) [it,acc,gf] [(ls,ab (ah D.n (λ k=>(l k:Int)) t) lv)] (λ l=>l=[]) (ca λ i q=>.bool false) nF:=by
 intro H R dr os i v hv ys ex nw an fn js h g tt hx hy hj L k
 obtain ⟨hi,rfl⟩:=cW hv
 subst hx
 obtain ⟨N,hN⟩:=bd h
 obtain ⟨w,c,rfl⟩:=cB w
 refine dv [dl (ah D.n (λ k=>(l k:Int)) t) i (.int (l i) (t i)),aN] am [U,.e,U,.c 0 [0,1000],aj,aj,.k,.k,aj,.k,.k,.e,.e,.e,.e,.e,.e,.e,.e,.e,ay,.c 1 [1],.s] L hN λ ps=>?_
 refine aC AY [0,1,2] 3 nw (λ W=>⟨.compLoop lU 0 (.ref it) (.ref acc) (fR lU gf [] D.N),true,none,[(it,i4 ls (i+1)),(acc,ab (ys.push (.bool false)) ((ps 1).6 0)),(gf,aJ w [("size",g7 js ((ps 0).4),.int ((↑(l i):Int)) (t i))] (g0 js fn))],[ys.size≤(1000:Nat),(ah D.n (λ k=>(↑(l k):Int)) t)[i]?=some (Value.int (↑(l i):Int) (t i))]⟩) rfl (by apply jq hj c;kernel_rfl) (by decide) rfl rfl rfl rfl rfl ?_ λ h' g' t' L'=>?_
 ·repeat' first|exact ae|refine aa ?_ ?_
  all_goals first
   |omega
   |exact ⟨by omega,by omega⟩
   |exact aG hi
   |(have:=hl i hi;omega)
 exact k h' g' t' (0,0,0) _ _ _ [] rfl L'
noncomputable def uK (w:World) (P:KF) (D:PD) (l:Nat→Nat):Sp:=ii w 600 2000 lU "size" [(1,λ fd=>mt (bm (az fd 0) 0))] (λ fd=>aT fd 3) (λ fd=>ad (az fd 3)) D.n (λ fd=>⟨[],"_law_paired.<locals>.",153,D.N,[],[(aT fd 3,ab (ad (az fd 3)) (ao (az fd 3)))],[],λ _=>[],(ca λ i q=>.bool false),nF,[wJ D l (ad (az fd 3)),D.n≤6,∀ k,k < D.n→l k < 6]⟩)
theorem sZ:bO w (KP w P) (uK w P D l):=by
 refine cC (by decide) (by decide) (by kernel_rfl) (λ fd i q ys=>by simp) (λ fd z=>rfl) λ fd ho hp=>?_
 have h0:=ho _ (.head _)
 have h1:=ho _ bU
 have h2:=ho _ fG
 obtain ⟨t,h0⟩:=h0
 dsimp only at h0⊢
 rw [h0]
 exact ⟨_,ab (ah D.n (λ k=>(l k:Int)) t) (ao (az fd 3)),au,.inl (.head _),bT rfl rfl,qX h1 h2⟩
noncomputable def pN:PySem.Expr:=mJ (qU 2 (cO (iN 6)))
theorem wo (hn:D.n≤6) (hl:∀ k,k < D.n→l k < 6):fq w P AY pN "size" (ah D.n (λ k=>(l k:Int)) t) D.lf it acc gf (fR pN gf [] D.N) [it,acc,gf] [(D.lf,ab (ah D.n (λ k=>(l k:Int)) t) lv)] (λ l=>l=[]) (ca λ i q=>.int (0 - (l i:Int)) q.1) nF:=by
 intro H R dr os i v hv ys ex nw an fn js h g tt hx hy hj L k
 obtain ⟨hi,rfl⟩:=cW hv
 subst hx
 obtain ⟨N,hN⟩:=bd h
 obtain ⟨w,c,rfl⟩:=cB w
 refine dv [dl (ah D.n (λ k=>(l k:Int)) t) i (.int (l i) (t i)),aN] am [U,.e,U,.c 0 [0,1000],aj,aj,aj,.e,.e,.e,ay,.c 1 [1],.s] L hN λ ps=>?_
 refine aC AY [0,1,2] 3 nw (λ W=>⟨.compLoop pN 0 (.ref it) (.ref acc) (fR pN gf [] D.N),true,none,[(it,i4 D.5 (i+1)),(acc,ab (ys.push (.int (0 - ((↑(l i):Int))) ((ps 0).4+2))) ((ps 1).6 0)),(gf,aJ w [("size",g7 js ((ps 0).4),.int ((↑(l i):Int)) (t i))] (g0 js fn))],[ys.size≤(1000:Nat),(ah D.n (λ k=>(↑(l k):Int)) t)[i]?=some (Value.int (↑(l i):Int) (t i))]⟩) rfl (by apply jq hj c;kernel_rfl) (by decide) rfl rfl rfl rfl rfl ?_ λ h' g' t' L'=>?_
 ·repeat' first|exact ae|refine aa ?_ ?_
  all_goals first
   |omega
   |exact ⟨by omega,by omega⟩
   |exact aG hi
   |(have:=hl i hi;omega)
 exact k h' g' t' (_,0,0) _ _ _ [] rfl L'
noncomputable def yL (w:World) (P:KF) (D:PD) (l:Nat→Nat):Sp:=ii w 600 2000 pN "size" [(1,λ fd=>D.lf)] (λ fd=>D.lf) (λ fd=>ad (az fd 3)) D.n (λ fd=>⟨[],"_law_paired.<locals>.",153,D.N,[],[(D.lf,ab (ad (az fd 3)) (ao (az fd 3)))],[],λ _=>[],(ca λ i q=>.int (0 - (l i:Int)) q.1),nF,[wJ D l (ad (az fd 3)),D.n≤6,∀ k,k < D.n→l k < 6]⟩)
theorem wB:bO w (KP w P) (yL w P D l):=by
 refine cC (by decide) (by decide) (by kernel_rfl) (λ fd i q ys=>by simp) (λ fd z=>rfl) λ fd ho hp=>?_
 have h0:=ho _ (.head _)
 have h1:=ho _ bU
 have h2:=ho _ fG
 obtain ⟨t,h0⟩:=h0
 dsimp only at h0⊢
 rw [h0]
 exact ⟨_,ab (ah D.n (λ k=>(l k:Int)) t) (ao (az fd 3)),au,.inl (.head _),bT rfl rfl,wo h1 h2⟩
noncomputable def qu:PySem.Expr:=mJ (cO (iN 8))
theorem vZ (hn:D.n≤6) (hf:∀ k,k < D.n→Nat.blt 0 (l k)=fb k) (hg:∀ k,k < D.n→Nat.beq (l k) 0=gb k):fq w P AY qu "size" (ah D.n (λ k=>(l k:Int)) t) D.lf it acc gf (fR qu gf [] D.N) [it,acc,gf] [(D.lf,ab (ah D.n (λ k=>(l k:Int)) t) lv)] (λ l=>l=[]) (ca λ i q=>.ref q.1) (λ i q=>[(q.1,aU #[.bool (fb i),.bool (gb i)] 0)]):=by
 intro H R dr os i v hv ys ex nw an fn js h g tt hx hy hj L k
 obtain ⟨hi,rfl⟩:=cW hv
 subst hx
 obtain ⟨N,hN⟩:=bd h
 obtain ⟨w,c,rfl⟩:=cB w
 refine dv [dl (ah D.n (λ k=>(l k:Int)) t) i (.int (l i) (t i)),aN,sK (l i) 0 (fb i),su (l i) 0 (gb i)] am [U,.e,U,.c 0 [0,1000],aj,aj,aj,.e,.c 2 [],aj,.e,.c 3 [],.e,aj,.c 1 [2],.s] L hN λ ps=>?_
 refine aC AY [1,2,3,0] 4 nw (λ W=>⟨.compLoop qu 0 (.ref it) (.ref acc) (fR qu gf [] D.N),true,none,[(it,i4 D.5 (i+1)),(acc,ab (ys.push (.ref ((ps 2).3))) ((ps 3).6 0)),(gf,aJ w [("size",g7 js ((ps 0).4),.int ((↑(l i):Int)) (t i))] (g0 js fn)),((ps (nat_lit 2)).3,aU #[.bool (fb i),.bool (gb i)] 0)],[ys.size≤(1000:Nat),((↑(l i):Int)==(0:Int))=gb i,decide ((↑(l i):Int) > (0:Int))=fb i,(ah D.n (λ k=>(↑(l k):Int)) t)[i]?=some (Value.int (↑(l i):Int) (t i))]⟩) rfl (by apply jq hj c;kernel_rfl) (by decide) rfl rfl rfl rfl rfl ?_ λ h' g' t' L'=>?_
 ·repeat' first|exact ae|refine aa ?_ ?_
  all_goals first
   |omega
   |exact ⟨by omega,by omega⟩
   |exact aG hi
   |exact It (hf i hi)
   |exact Il (hg i hi)
 exact k h' g' t' (_,0,0) _ _ _ [] rfl L'
noncomputable def xW (w:World) (P:KF) (D:PD) (l:Nat→Nat) (fb:Nat→Bool) (gb:Nat→Bool):Sp:=ii w 600 2000 qu "size" [(1,λ fd=>D.lf)] (λ fd=>D.lf) (λ fd=>ad (az fd 3)) D.n (λ fd=>⟨[],"_law_paired.<locals>.",153,D.N,[],[(D.lf,ab (ad (az fd 3)) (ao (az fd 3)))],[],λ _=>[],(ca λ i q=>.ref q.1),(λ i q=>[(q.1,aU #[.bool (fb i),.bool (gb i)] 0)]),[wJ D l (ad (az fd 3)),D.n≤6,∀ k,k < D.n→Nat.blt 0 (l k)=fb k,∀ k,k < D.n→Nat.beq (l k) 0=gb k]⟩)
theorem wz:bO w (KP w P) (xW w P D l fb gb):=by
 refine cC (by decide) (by decide) (by kernel_rfl) (λ fd i q ys=>by simp) (λ fd z=>rfl) λ fd ho hp=>?_
 have h0:=ho _ (.head _)
 have h1:=ho _ bU
 have h2:=ho _ fG
 have h3:=ho _ jX
 obtain ⟨t,h0⟩:=h0
 dsimp only at h0⊢
 rw [h0]
 exact ⟨_,ab (ah D.n (λ k=>(l k:Int)) t) (ao (az fd 3)),au,.inl (.head _),bT rfl rfl,vZ h1 h2 h3⟩
noncomputable def qL:PySem.Expr:=mJ (cO (iN 9))
theorem wQ (hn:D.n≤6) (hf:∀ k,k < D.n→Nat.blt 0 (l k)=fb k) (hg:∀ k,k < D.n→Nat.beq (l k) 0=gb k):fq w P AY qL "size" (ah D.n (λ k=>(l k:Int)) t) D.lf it acc gf (fR qL gf [] D.N) [it,acc,gf] [(D.lf,ab (ah D.n (λ k=>(l k:Int)) t) lv)] (λ l=>l=[]) (ca λ i q=>.ref q.1) (λ i q=>[(q.1,aU #[.bool (fb i),.bool (gb i)] 0)]):=by
 intro H R dr os i v hv ys ex nw an fn js h g tt hx hy hj L k
 obtain ⟨hi,rfl⟩:=cW hv
 subst hx
 obtain ⟨N,hN⟩:=bd h
 obtain ⟨w,c,rfl⟩:=cB w
 refine dv [dl (ah D.n (λ k=>(l k:Int)) t) i (.int (l i) (t i)),aN,sK (l i) 0 (fb i),su (l i) 0 (gb i)] am [U,.e,U,.c 0 [0,1000],aj,aj,aj,.e,.c 2 [],aj,.e,.c 3 [],.e,aj,.c 1 [2],.s] L hN λ ps=>?_
 refine aC AY [1,2,3,0] 4 nw (λ W=>⟨.compLoop qL 0 (.ref it) (.ref acc) (fR qL gf [] D.N),true,none,[(it,i4 D.5 (i+1)),(acc,ab (ys.push (.ref ((ps 2).3))) ((ps 3).6 0)),(gf,aJ w [("size",g7 js ((ps 0).4),.int ((↑(l i):Int)) (t i))] (g0 js fn)),((ps (nat_lit 2)).3,aU #[.bool (fb i),.bool (gb i)] 0)],[ys.size≤(1000:Nat),((↑(l i):Int)==(0:Int))=gb i,decide ((↑(l i):Int) > (0:Int))=fb i,(ah D.n (λ k=>(↑(l k):Int)) t)[i]?=some (Value.int (↑(l i):Int) (t i))]⟩) rfl (by apply jq hj c;kernel_rfl) (by decide) rfl rfl rfl rfl rfl ?_ λ h' g' t' L'=>?_
 ·repeat' first|exact ae|refine aa ?_ ?_
  all_goals first
   |omega
   |exact ⟨by omega,by omega⟩
   |exact aG hi
   |exact It (hf i hi)
   |exact Il (hg i hi)
 exact k h' g' t' (_,0,0) _ _ _ [] rfl L'
noncomputable def xR (w:World) (P:KF) (D:PD) (l:Nat→Nat) (fb:Nat→Bool) (gb:Nat→Bool):Sp:=ii w 600 2000 qL "size" [(1,λ fd=>D.lf)] (λ fd=>D.lf) (λ fd=>ad (az fd 3)) D.n (λ fd=>⟨[],"_law_paired.<locals>.",153,D.N,[],[(D.lf,ab (ad (az fd 3)) (ao (az fd 3)))],[],λ _=>[],(ca λ i q=>.ref q.1),(λ i q=>[(q.1,aU #[.bool (fb i),.bool (gb i)] 0)]),[wJ D l (ad (az fd 3)),D.n≤6,∀ k,k < D.n→Nat.blt 0 (l k)=fb k,∀ k,k < D.n→Nat.beq (l k) 0=gb k]⟩)
theorem vR:bO w (KP w P) (xR w P D l fb gb):=by
 refine cC (by decide) (by decide) (by kernel_rfl) (λ fd i q ys=>by simp) (λ fd z=>rfl) λ fd ho hp=>?_
 have h0:=ho _ (.head _)
 have h1:=ho _ bU
 have h2:=ho _ fG
 have h3:=ho _ jX
 obtain ⟨t,h0⟩:=h0
 dsimp only at h0⊢
 rw [h0]
 exact ⟨_,ab (ah D.n (λ k=>(l k:Int)) t) (ao (az fd 3)),au,.inl (.head _),bT rfl rfl,wQ h1 h2 h3⟩
noncomputable def l5:PySem.Expr:=sP (cO (iN 8))
theorem vx (hn:D.n≤6):jV w P AY l5 "k" D.n it acc gf (fR l5 gf [("full",D.N+9)] D.N) [it,acc,gf] [(D.N+9,ak (.ref bl)),(bl,ab (b6 D.n fb) bv)] (λ l=>l=[]) (ca λ i q=>.ref q.1) (λ i q=>[(q.1,aU #[.bool (fb i),.bool (!fb i)] 0)]):=by
 intro H R dr os i hi ys ex nw an fn js h g tt hx hy hj L k
 subst hx
 obtain ⟨N,hN⟩:=bd h
 obtain ⟨w,c,rfl⟩:=cB w
 cases hfb:fb i
 ·simp only [hfb,Bool.not_true,Bool.not_false] at k
  refine dv [b9 i D.n,aN,d5 (b6 D.n fb) i (.bool false)] am [U,.e,U,.c 0 [0],aj,aj,aD,aj,bJ,bJ,bJ,.e,bJ,.c 2 [1001],aD,aj,bJ,bJ,bJ,.e,bJ,.c 2 [1001],.e,aj,.c 1 [2],.s] L hN λ ps=>?_
  refine aC AY [1,2,3,0] 4 nw (λ W=>⟨.compLoop l5 0 (.ref it) (.ref acc) (fR l5 gf [("full",D.N+9)] D.N),true,none,[(it,kX (i+1) D.n),(acc,ab (ys.push (.ref ((ps 2).3))) ((ps 3).6 0)),(gf,aJ w [("k",g7 js ((ps 0).4),.int ((↑i:Int)) ((ps 0).6 0))] (g0 js fn)),((ps (nat_lit 2)).3,aU #[.bool false,.bool true] 0)],[ys.size≤(1000:Nat),iz (↑i:Int),(b6 D.n fb)[(↑i:Int).toNat]?=some (Value.bool false),iz (↑i:Int),(b6 D.n fb)[(↑i:Int).toNat]?=some (Value.bool false),i < D.n]⟩) rfl (by apply jq hj c;kernel_rfl) (by decide) rfl rfl rfl rfl rfl ?_ λ h' g' t' L'=>?_
  ·repeat' first|exact ae|refine aa ?_ ?_
   all_goals first
    |omega
    |exact ⟨by omega,by omega⟩
    |exact hfb▸fM hi
  exact k h' g' t' (_,0,0) _ _ _ _ [] rfl L'
 ·simp only [hfb,Bool.not_true,Bool.not_false] at k
  refine dv [b9 i D.n,aN,d5 (b6 D.n fb) i (.bool true)] am [U,.e,U,.c 0 [0],aj,aj,aD,aj,bJ,bJ,bJ,.e,bJ,.c 2 [1001],aD,aj,bJ,bJ,bJ,.e,bJ,.c 2 [1001],.e,aj,.c 1 [2],.s] L hN λ ps=>?_
  refine aC AY [1,2,3,0] 4 nw (λ W=>⟨.compLoop l5 0 (.ref it) (.ref acc) (fR l5 gf [("full",D.N+9)] D.N),true,none,[(it,kX (i+1) D.n),(acc,ab (ys.push (.ref ((ps 2).3))) ((ps 3).6 0)),(gf,aJ w [("k",g7 js ((ps 0).4),.int ((↑i:Int)) ((ps 0).6 0))] (g0 js fn)),((ps (nat_lit 2)).3,aU #[.bool true,.bool false] 0)],[ys.size≤(1000:Nat),iz (↑i:Int),(b6 D.n fb)[(↑i:Int).toNat]?=some (Value.bool true),iz (↑i:Int),(b6 D.n fb)[(↑i:Int).toNat]?=some (Value.bool true),i < D.n]⟩) rfl (by apply jq hj c;kernel_rfl) (by decide) rfl rfl rfl rfl rfl ?_ λ h' g' t' L'=>?_
  ·repeat' first|exact ae|refine aa ?_ ?_
   all_goals first
    |omega
    |exact ⟨by omega,by omega⟩
    |exact hfb▸fM hi
  exact k h' g' t' (_,0,0) _ _ _ _ [] rfl L'
noncomputable def xI (w:World) (P:KF) (D:PD) (fb:Nat→Bool):Sp:=mU w 600 2000 l5 "k" D.n [(1,λ fd=>D.N+9),(1,λ fd=>mt (fT (az fd 3)))] (λ fd=>⟨[("full",D.N+9)],"_law_paired.<locals>.",153,D.N,[],[(D.N+9,ak (.ref (aT fd 4))),(aT fd 4,ab (b6 D.n fb) (ao (az fd 4)))],[],λ _=>[],(ca λ i q=>.ref q.1),(λ i q=>[(q.1,aU #[.bool (fb i),.bool (!fb i)] 0)]),[D.n≤6]⟩)
theorem vn:bO w (KP w P) (xI w P D fb):=by
 refine f5 (by decide) (by decide) (by kernel_rfl) (λ fd i q ys=>by simp) (λ fd z=>rfl) λ fd ho hp=>?_
 have h0:=ho _ (.head _)
 exact ⟨_,bT rfl rfl,vx h0⟩
noncomputable def mc:PySem.Expr:=sP (cO (iN 9))
theorem wl (hn:D.n≤6):jV w P AY mc "k" D.n it acc gf (fR mc gf [("bare",D.N+10)] D.N) [it,acc,gf] [(D.N+10,ak (.ref bl)),(bl,ab (b6 D.n fb) bv)] (λ l=>l=[]) (ca λ i q=>.ref q.1) (λ i q=>[(q.1,aU #[.bool (!fb i),.bool (fb i)] 0)]):=by
 intro H R dr os i hi ys ex nw an fn js h g tt hx hy hj L k
 subst hx
 obtain ⟨N,hN⟩:=bd h
 obtain ⟨w,c,rfl⟩:=cB w
 cases hfb:fb i
 ·simp only [hfb,Bool.not_true,Bool.not_false] at k
  refine dv [b9 i D.n,aN,d5 (b6 D.n fb) i (.bool false)] am [U,.e,U,.c 0 [0],aj,aj,aD,aj,bJ,bJ,bJ,.e,bJ,.c 2 [1001],aD,aj,bJ,bJ,bJ,.e,bJ,.c 2 [1001],.e,aj,.c 1 [2],.s] L hN λ ps=>?_
  refine aC AY [1,2,3,0] 4 nw (λ W=>⟨.compLoop mc 0 (.ref it) (.ref acc) (fR mc gf [("bare",D.N+10)] D.N),true,none,[(it,kX (i+1) D.n),(acc,ab (ys.push (.ref ((ps 2).3))) ((ps 3).6 0)),(gf,aJ w [("k",g7 js ((ps 0).4),.int ((↑i:Int)) ((ps 0).6 0))] (g0 js fn)),((ps (nat_lit 2)).3,aU #[.bool true,.bool false] 0)],[ys.size≤(1000:Nat),iz (↑i:Int),(b6 D.n fb)[(↑i:Int).toNat]?=some (Value.bool false),iz (↑i:Int),(b6 D.n fb)[(↑i:Int).toNat]?=some (Value.bool false),i < D.n]⟩) rfl (by apply jq hj c;kernel_rfl) (by decide) rfl rfl rfl rfl rfl ?_ λ h' g' t' L'=>?_
  ·repeat' first|exact ae|refine aa ?_ ?_
   all_goals first
    |omega
    |exact ⟨by omega,by omega⟩
    |exact hfb▸fM hi
  exact k h' g' t' (_,0,0) _ _ _ _ [] rfl L'
 ·simp only [hfb,Bool.not_true,Bool.not_false] at k
  refine dv [b9 i D.n,aN,d5 (b6 D.n fb) i (.bool true)] am [U,.e,U,.c 0 [0],aj,aj,aD,aj,bJ,bJ,bJ,.e,bJ,.c 2 [1001],aD,aj,bJ,bJ,bJ,.e,bJ,.c 2 [1001],.e,aj,.c 1 [2],.s] L hN λ ps=>?_
  refine aC AY [1,2,3,0] 4 nw (λ W=>⟨.compLoop mc 0 (.ref it) (.ref acc) (fR mc gf [("bare",D.N+10)] D.N),true,none,[(it,kX (i+1) D.n),(acc,ab (ys.push (.ref ((ps 2).3))) ((ps 3).6 0)),(gf,aJ w [("k",g7 js ((ps 0).4),.int ((↑i:Int)) ((ps 0).6 0))] (g0 js fn)),((ps (nat_lit 2)).3,aU #[.bool false,.bool true] 0)],[ys.size≤(1000:Nat),iz (↑i:Int),(b6 D.n fb)[(↑i:Int).toNat]?=some (Value.bool true),iz (↑i:Int),(b6 D.n fb)[(↑i:Int).toNat]?=some (Value.bool true),i < D.n]⟩) rfl (by apply jq hj c;kernel_rfl) (by decide) rfl rfl rfl rfl rfl ?_ λ h' g' t' L'=>?_
  ·repeat' first|exact ae|refine aa ?_ ?_
   all_goals first
    |omega
    |exact ⟨by omega,by omega⟩
    |exact hfb▸fM hi
  exact k h' g' t' (_,0,0) _ _ _ _ [] rfl L'
noncomputable def ym (w:World) (P:KF) (D:PD) (fb:Nat→Bool):Sp:=mU w 600 2000 mc "k" D.n [(1,λ fd=>D.N+10),(1,λ fd=>mt (fT (az fd 3)))] (λ fd=>⟨[("bare",D.N+10)],"_law_paired.<locals>.",153,D.N,[],[(D.N+10,ak (.ref (aT fd 4))),(aT fd 4,ab (b6 D.n fb) (ao (az fd 4)))],[],λ _=>[],(ca λ i q=>.ref q.1),(λ i q=>[(q.1,aU #[.bool (!fb i),.bool (fb i)] 0)]),[D.n≤6]⟩)
theorem vy:bO w (KP w P) (ym w P D fb):=by
 refine f5 (by decide) (by decide) (by kernel_rfl) (λ fd i q ys=>by simp) (λ fd z=>rfl) λ fd ho hp=>?_
 have h0:=ho _ (.head _)
 exact ⟨_,bT rfl rfl,wl h0⟩
end
section
variable {A:Around}
noncomputable def lR:PySem.Expr:=eh (iN 11)
theorem vH (hn:D.n≤6):jV w P AY lR "k" D.n it acc gf (fR lR gf [("full",D.N+9)] D.N) [it,acc,gf] [(D.N+9,ak (.ref bl)),(bl,ab (b6 D.n fb) bv)] (λ l=>l=[]) (kU fb) nF:=by
 intro H R dr os i hi ys ex nw an fn js h g tt hx hy hj L k
 subst hx
 obtain ⟨N,hN⟩:=bd h
 obtain ⟨w,c,rfl⟩:=cB w
 cases hfb:fb i
 ·simp only [tz hfb] at k
  refine dv [b9 i D.n,aN,d5 (b6 D.n fb) i (.bool false)] am [U,.e,U,.c 0 [0],aj,aj,aD,aj,bJ,bJ,bJ,.e,bJ,.c 2 [1001],.s] L hN λ ps=>?_
  refine aC AY [0,1,2] 3 nw (λ W=>⟨.compLoop lR 0 (.ref it) (.ref acc) (fR lR gf [("full",D.N+9)] D.N),true,none,[(it,kX (i+1) D.n),(acc,ab ys an),(gf,aJ w [("k",g7 js ((ps 0).4),.int ((↑i:Int)) ((ps 0).6 0))] (g0 js fn))],[iz (↑i:Int),(b6 D.n fb)[(↑i:Int).toNat]?=some (Value.bool false),i < D.n]⟩) rfl (by apply jq hj c;kernel_rfl) (by decide) rfl rfl rfl rfl rfl ?_ λ h' g' t' L'=>?_
  ·repeat' first|exact ae|refine aa ?_ ?_
   all_goals first
    |lia
    |exact ⟨by lia,by lia⟩
    |exact hfb▸fM hi
  exact k h' g' t' (0,0,0) _ _ _ _ [] rfl L'
 ·simp only [tT hfb] at k
  refine dv [b9 i D.n,aN,d5 (b6 D.n fb) i (.bool true)] am [U,.e,U,.c 0 [0],aj,aj,aD,aj,bJ,bJ,bJ,.e,bJ,.c 2 [1001],aj,.e,ay,.c 1 [1],.s] L hN λ ps=>?_
  refine aC AY [0,1,2] 3 nw (λ W=>⟨.compLoop lR 0 (.ref it) (.ref acc) (fR lR gf [("full",D.N+9)] D.N),true,none,[(it,kX (i+1) D.n),(acc,ab (ys.push (.int ((↑i:Int)) ((ps 0).6 0))) ((ps 2).6 0)),(gf,aJ w [("k",g7 js ((ps 0).4),.int ((↑i:Int)) ((ps 0).6 0))] (g0 js fn))],[ys.size≤(1000:Nat),iz (↑i:Int),(b6 D.n fb)[(↑i:Int).toNat]?=some (Value.bool true),i < D.n]⟩) rfl (by apply jq hj c;kernel_rfl) (by decide) rfl rfl rfl rfl rfl ?_ λ h' g' t' L'=>?_
  ·repeat' first|exact ae|refine aa ?_ ?_
   all_goals first
    |lia
    |exact ⟨by lia,by lia⟩
    |exact hfb▸fM hi
  exact k h' g' t' (_,0,0) _ _ _ _ [] rfl L'
noncomputable def w8 (w:World) (P:KF) (D:PD) (fb:Nat→Bool):Sp:=mU w 600 2000 lR "k" D.n [(1,λ fd=>D.N+9),(1,λ fd=>mt (fT (az fd 3)))] (λ fd=>⟨[("full",D.N+9)],"_law_paired.<locals>.",153,D.N,[],[(D.N+9,ak (.ref (aT fd 4))),(aT fd 4,ab (b6 D.n fb) (ao (az fd 4)))],[],λ _=>[],(kU fb),nF,[D.n≤6]⟩)
theorem wR:bO w (KP w P) (w8 w P D fb):=by
 refine f5 (by decide) (by decide) (by kernel_rfl) (λ fd i q ys=>xH _ _ _ _) (λ fd z=>rfl) λ fd ho hp=>?_
 have h0:=ho _ (.head _)
 exact ⟨_,bT rfl rfl,vH h0⟩
noncomputable def gV:PySem.Expr:=eh (iN 13)
theorem py (hn:D.n≤6) (ht:∀ k:Nat,((k:Int)!=T)=fb k):jV w P AY gV "k" D.n it acc gf (fR gV gf [("taken",D.N+11)] D.N) [it,acc,gf] [(D.N+11,ak (.int T tk))] (λ l=>l=[]) (kU fb) nF:=by
 intro H R dr os i hi ys ex nw an fn js h g tt hx hy hj L k
 subst hx
 obtain ⟨N,hN⟩:=bd h
 obtain ⟨w,c,rfl⟩:=cB w
 cases hfb:fb i
 ·simp only [tz hfb] at k
  refine dv [b9 i D.n,aN,xe (i:Int) T false] am [U,.e,U,.c 0 [0],aj,aj,aj,aD,.e,.c 2 [],.s] L hN λ ps=>?_
  refine aC AY [0,1,2] 3 nw (λ W=>⟨.compLoop gV 0 (.ref it) (.ref acc) (fR gV gf [("taken",D.N+11)] D.N),true,none,[(it,kX (i+1) D.n),(acc,ab ys an),(gf,aJ w [("k",g7 js ((ps 0).4),.int ((↑i:Int)) ((ps 0).6 0))] (g0 js fn))],[((↑i:Int)!=T)=false,i < D.n]⟩) rfl (by apply jq hj c;kernel_rfl) (by decide) rfl rfl rfl rfl rfl ?_ λ h' g' t' L'=>?_
  ·repeat' first|exact ae|refine aa ?_ ?_
   all_goals first
    |lia
    |exact ⟨by lia,by lia⟩
    |exact (ht i).trans hfb
  exact k h' g' t' (0,0,0) _ _ _ _ [] rfl L'
 ·simp only [tT hfb] at k
  refine dv [b9 i D.n,aN,xe (i:Int) T true] am [U,.e,U,.c 0 [0],aj,aj,aj,aD,.e,.c 2 [],aj,.e,ay,.c 1 [1],.s] L hN λ ps=>?_
  refine aC AY [0,1,2] 3 nw (λ W=>⟨.compLoop gV 0 (.ref it) (.ref acc) (fR gV gf [("taken",D.N+11)] D.N),true,none,[(it,kX (i+1) D.n),(acc,ab (ys.push (.int ((↑i:Int)) ((ps 0).6 0))) ((ps 2).6 0)),(gf,aJ w [("k",g7 js ((ps 0).4),.int ((↑i:Int)) ((ps 0).6 0))] (g0 js fn))],[ys.size≤(1000:Nat),((↑i:Int)!=T)=true,i < D.n]⟩) rfl (by apply jq hj c;kernel_rfl) (by decide) rfl rfl rfl rfl rfl ?_ λ h' g' t' L'=>?_
  ·repeat' first|exact ae|refine aa ?_ ?_
   all_goals first
    |lia
    |exact ⟨by lia,by lia⟩
    |exact (ht i).trans hfb
  exact k h' g' t' (_,0,0) _ _ _ _ [] rfl L'
noncomputable def mo (w:World) (P:KF) (D:PD) (T:Int) (fb:Nat→Bool):Sp:=mU w 600 2000 gV "k" D.n [(1,λ fd=>D.N+11)] (λ fd=>⟨[("taken",D.N+11)],"_law_paired.<locals>.",153,D.N,[],[(D.N+11,ak (.int T (bE (fT (az fd 3)))))],[],λ _=>[],(kU fb),nF,[D.n≤6,∀ k:Nat,((k:Int)!=T)=fb k]⟩)
theorem kA:bO w (KP w P) (mo w P D T fb):=by
 refine f5 (by decide) (by decide) (by kernel_rfl) (λ fd i q ys=>xH _ _ _ _) (λ fd z=>rfl) λ fd ho hp=>?_
 have h0:=ho _ (.head _)
 have h1:=ho _ bU
 exact ⟨_,bT rfl rfl,py h0 h1⟩
noncomputable def mq:PySem.Expr:=mJ (qU 0 (cO (iN 15)))
theorem rQ {ls:Nat}{o:Nat→Nat}(hn:D.n≤6) (hm:m≤6) (ho:∀ j,j < m→o j < D.n):fq w P AY mq "k" (ah m (λ j=>(o j:Int)) t) ls it acc gf (fR mq gf [("bare",D.N+10)] D.N) [it,acc,gf] [(ls,ab (ah m (λ j=>(o j:Int)) t) lv),(D.N+10,ak (.ref bl)),(bl,ab (b6 D.n gb) bv)] (λ l=>l=[]) (ca λ i q=>.bool (gb (o i))) nF:=by
 intro H R dr os i v hv ys ex nw an fn js h g tt hx hy hj L k
 obtain ⟨hi,rfl⟩:=cW hv
 subst hx
 obtain ⟨N,hN⟩:=bd h
 obtain ⟨w,c,rfl⟩:=cB w
 refine dv [dl (ah m (λ j=>(o j:Int)) t) i (.int (o i) (t i)),aN,d5 (b6 D.n gb) (o i) (.bool (gb (o i)))] am [U,.e,U,.c 0 [0,1000],aj,aj,bJ,aj,BR,BR,BR,.e,BR,.c 2 [1002],.e,ay,.c 1 [1],.s] L hN λ ps=>?_
 refine aC AY [0,1,2] 3 nw (λ W=>⟨.compLoop mq 0 (.ref it) (.ref acc) (fR mq gf [("bare",D.N+10)] D.N),true,none,[(it,i4 ls (i+1)),(acc,ab (ys.push (.bool (gb (o i)))) ((ps 2).6 0)),(gf,aJ w [("k",g7 js ((ps 0).4),.int ((↑(o i):Int)) (t i))] (g0 js fn))],[ys.size≤(1000:Nat),iz (↑(o i):Int),(b6 D.n gb)[(↑(o i):Int).toNat]?=some (Value.bool (gb (o i))),(ah m (λ j=>(↑(o j):Int)) t)[i]?=some (Value.int (↑(o i):Int) (t i))]⟩) rfl (by apply jq hj c;kernel_rfl) (by decide) rfl rfl rfl rfl rfl ?_ λ h' g' t' L'=>?_
 ·repeat' first|exact ae|refine aa ?_ ?_
  all_goals first
   |lia
   |exact ⟨by lia,by lia⟩
   |exact aG hi
   |exact fM (ho i hi)
   |(have:=ho i hi;lia)
   |(have:=ho i hi;exact ⟨by lia,by lia⟩)
 exact k h' g' t' (0,0,0) _ _ _ [] rfl L'
noncomputable def lj (w:World) (P:KF) (D:PD) (gb:Nat→Bool) (m:Nat) (o:Nat→Nat):Sp:=ii w 600 2000 mq "k" [(1,λ fd=>mt (bm (az fd 0) 0)),(1,λ fd=>D.N+10),(1,λ fd=>mt (fT (az fd 4)))] (λ fd=>aT fd 3) (λ fd=>ad (az fd 3)) m (λ fd=>⟨[("bare",D.N+10)],"_law_paired.<locals>.",153,D.N,[],[(aT fd 3,ab (ad (az fd 3)) (ao (az fd 3))),(D.N+10,ak (.ref (aT fd 5))),(aT fd 5,ab (b6 D.n gb) (ao (az fd 5)))],[],λ _=>[],(ca λ i q=>.bool (gb (o i))),nF,[∃ t,ad (az fd 3)=ah m (λ j=>(o j:Int)) t,D.n≤6,m≤6,∀ j,j < m→o j < D.n]⟩)
theorem i8 {o:Nat→Nat}:bO w (KP w P) (lj w P D gb m o):=by
 refine cC (by decide) (by decide) (by kernel_rfl) (λ fd i q ys=>by simp) (λ fd z=>rfl) λ fd ho hp=>?_
 have h0:=ho _ (.head _)
 have h1:=ho _ bU
 have h2:=ho _ fG
 have h3:=ho _ jX
 obtain ⟨t,h0⟩:=h0
 dsimp only at h0⊢
 rw [h0]
 exact ⟨_,ab (ah m (λ j=>(o j:Int)) t) (ao (az fd 3)),au,.inl (.head _),bT rfl rfl,rQ h1 h2 h3⟩
end
section
variable {A:Around}
theorem El {u:Nat→Addr}(hu:∀ j,j < xs.size→xs[j]?=some (.ref (u j))) (h:qs.length=xs.size):cn (ca λ i q=>.ref (u i)) qs=xs:=by
 rw [nK]
 apply Array.ext
 ·simp [h]
 ·intro i h1 h2
  have:=hu i h2
  rw [i9 h2] at this
  simp [bo this]
theorem s5 (hD:c7 w P D) (hk:k < D.n):∀ j,j < (D.pts l k).size→(D.pts l k)[j]?=some (.ref ((D.qs k).getD j default).1):=by
 intro j hj
 unfold PD.pts PD.row iZ at hj⊢
 simp only [List.size_toArray,List.length_take,fH] at hj
 have h1:j < (D.qs k).length:=by lia
 simp only [List.getElem?_toArray,List.getElem?_take,List.getElem?_map]
 rw [if_pos (by lia),dT h1]
 simp [h1]
theorem zz (z:Nat→Nat) (n:Nat):(aw z n).length=n:=by simp [aw]
theorem bR (qs:List Q3):ec nF qs=[]:=by
 unfold ec
 rw [List.flatten_eq_nil_iff]
 intro l hl
 rw [List.mem_reverse] at hl
 obtain ⟨i,h,rfl⟩:=List.mem_mapIdx.mp hl
 rfl
noncomputable def fX:PySem.Expr:=sP (cO (iN 5))
noncomputable def mC:PySem.Expr:=C2 fX
theorem sQ {pt pd pv:Nat}{u:Nat→Addr}(hk:KP w P pt=some (ax pd xs pv)) (hs:xs.size≤1000) (hu:∀ j,j < xs.size→xs[j]?=some (.ref (u j))):fq w P AI mC "piece" xs pt it acc gf (fR mC gf [] D.N) [it,acc,gf] [] (λ l=>l=[]) (ca λ i q=>.ref (u i)) nF:=by
 intro H R dr os i v hv ys ex nw an fn js h g tt hx hy hj L k
 have hi:=(Array.getElem?_eq_some_iff.mp hv).1
 rw [hu i hi] at hv
 obtain rfl:=bo hv
 obtain rfl:=hx.symm
 obtain ⟨N,hN⟩:=bd h
 have hpf:=f9 hk am
 obtain ⟨w,c,rfl⟩:=cB w
 refine dv [dl xs i (.ref (u i)),aN] hpf [U,.e,U,.c 0 [0,2000],aj,aj,aj,.e,ay,.c 1 [1],.s] L hN λ ps=>?_
 refine aC AI [0,1,2] 3 nw (λ W=>⟨.compLoop mC 0 (.ref it) (.ref acc) (fR mC gf [] D.N),true,none,[(it,i4 pt (i+1)),(acc,ab (ys.push (.ref (u i))) ((ps 1).6 0)),(gf,aJ w [("piece",g7 js ((ps 0).4),.ref (u i))] (g0 js fn))],[ys.size≤(1000:Nat),xs[i]?=some (Value.ref (u i))]⟩) rfl (by apply jq hj c;kernel_rfl) (by decide) rfl rfl rfl rfl rfl ?_ λ h' g' t' L'=>?_
 ·repeat' first|exact ae|refine aa ?_ ?_
  all_goals first
   |lia
   |exact ⟨by lia,by lia⟩
   |exact hu i hi
 exact k h' g' t' (0,0,0) _ _ _ [] rfl L'
noncomputable def om (w:World) (P:KF) (D:PD) (pt:Nat) (xs:VA) (u:Nat→Addr) (sz:Nat):Sp:=ii w 700 2600 mC "piece" [] (λ fd=>pt) (λ fd=>xs) sz (λ fd=>⟨[],"_law_paired.<locals>.",153,D.N,[],[],[],λ _=>[],(ca λ i q=>.ref (u i)),nF,[∃ pd pv,KP w P pt=some (ax pd xs pv),xs.size≤1000,∀ j,j < xs.size→xs[j]?=some (.ref (u j)),xs.size=sz]⟩)
theorem lK {pt:Nat}{u:Nat→Addr}:bO w (KP w P) (om w P D pt xs u sz):=by
 refine cC (by decide) (by decide) (by kernel_rfl) (λ fd i q ys=>by simp) (λ fd z=>rfl) λ fd ho hp=>?_
 have h0:=ho _ (.head _)
 have h1:=ho _ bU
 have h2:=ho _ fG
 have h3:=ho _ jX
 obtain ⟨pd,pv,h0⟩:=h0
 exact ⟨_,ax pd xs pv,h3,.inr h0,bT rfl rfl,sQ h0 h1 h2⟩
theorem qm (hD:c7 w P D) (hP:kQ w P D l) (hn:D.n≤6):fq w P AY fX "point" (bk D.n D.pt) D.pl it acc gf (fR fX gf [] D.N) [it,acc,gf] [] (λ l=>l=[]) (ca λ i q=>.ref q.1) (λ i q=>[(q.1,ab (D.pts l i) q.2.1)]):=by
 intro H R dr os i v hv ys ex nw an fn js h g tt hx hy hj L k
 obtain ⟨hi,rfl⟩:=jo hv
 obtain ⟨pd,pv,_,_,_,_,hk,_,_,_⟩:=(hP.pt i hi).pd
 obtain rfl:=hx.symm
 obtain ⟨N,hN⟩:=bd h
 have hpf:=f9 hD.pl (f9 hk am)
 obtain ⟨w,c,rfl⟩:=cB w
 rcases hs:(D.pts l i).size with _|s
 ·have e0:=Array.eq_empty_of_size_eq_zero hs;simp only [e0] at k
  refine dv [dl (bk D.n D.pt) i (.ref (D.pt i)),aN,c0 (om _ P D (D.pt i) (D.pts l i) (λ j=>((D.qs i).getD j default).1) 0) lK] hpf [U,.e,U,.c 0 [0,2000],aj,aj,aj,bY,.k,.k,.k,bY,.k,.k,.k,.e,bY,.k,.e,U,.c 2 [2,1,0],U,.e,aK,.c 1 [4],.s] L hN λ ps=>?_
  refine aC AY [3,4,5,1] 6 (nw++ec nF (aw (ps 1).as 0)) (λ W=>⟨.compLoop fX 0 (.ref it) (.ref acc) (fR fX gf [] D.N),true,none,[(it,i4 D.4 (i+1)),(acc,ab (ys.push (.ref ((ps 0).3+1))) ((ps 2).6 0)),(gf,aJ w [("point",g7 js ((ps 0).4),.ref (D.14 i))] (g0 js fn)),((ps (nat_lit 0)).3+1,ab #[] ((ps 1).6 0))],[ys.size≤(1000:Nat),∃ pd pv,KP W P (D.pt i)=some (ax pd (D.pts l i) pv),(D.pts l i).size≤(1000:Nat),∀ (j:Nat),j < (D.pts l i).size→(D.pts l i)[j]?=some (Value.ref ((λ j=>((D.qs i).getD j default).fst) j)),(D.pts l i).size=(0:Nat),(bk D.n D.pt)[i]?=some (Value.ref (D.pt i))]⟩) rfl (by apply jq hj c;kernel_rfl) (by decide) rfl rfl rfl rfl rfl ?_ λ h' g' t' L'=>?_
  ·repeat' first|exact ae|refine aa ?_ ?_
   all_goals first
    |lia
    |exact ⟨by lia,by lia⟩
    |exact bK hi
    |exact ⟨_,_,hk⟩
    |exact (hP.pt i hi).pcs.1
    |exact s5 hD hi
    |exact hs
  rw [bR,aX] at L'
  exact k h' g' t' (_,_,0) _ _ _ [] rfl L'
 ·refine dv [dl (bk D.n D.pt) i (.ref (D.pt i)),aN,c0 (om _ P D (D.pt i) (D.pts l i) (λ j=>((D.qs i).getD j default).1) (s+1)) lK] hpf [U,.e,U,.c 0 [0,2000],aj,aj,aj,bY,.k,.k,.k,bY,.k,.k,.k,.e,bY,.k,.e,U,.c 2 [2,1,0],U,U,U,.e,aK,.c 1 [4],.s] L hN λ ps=>?_
  refine aC AY [3,4,5,1] 6 (nw++ec nF (aw (ps 1).as (s+1))) (λ W=>⟨.compLoop fX 0 (.ref it) (.ref acc) (fR fX gf [] D.N),true,none,[(it,i4 D.4 (i+1)),(acc,ab (ys.push (.ref ((ps 0).3+1))) ((ps 2).6 0)),(gf,aJ w [("point",g7 js ((ps 0).4),.ref (D.14 i))] (g0 js fn)),((ps (nat_lit 0)).3+1,ab (cn (ca λ j q=>.ref ((D.qs i).getD j default).1) (aw (ps 1).as (s+1))) ((ps 1).as 0))],[ys.size≤(1000:Nat),∃ pd pv,KP W P (D.pt i)=some (ax pd (D.pts l i) pv),(D.pts l i).size≤(1000:Nat),∀ (j:Nat),j < (D.pts l i).size→(D.pts l i)[j]?=some (Value.ref ((λ j=>((D.qs i).getD j default).fst) j)),(D.pts l i).size=s+(1:Nat),(bk D.n D.pt)[i]?=some (Value.ref (D.pt i))]⟩) rfl (by apply jq hj c;kernel_rfl) (by decide) rfl rfl rfl rfl rfl ?_ λ h' g' t' L'=>?_
  ·repeat' first|exact ae|refine aa ?_ ?_
   all_goals first
    |lia
    |exact ⟨by lia,by lia⟩
    |exact bK hi
    |exact ⟨_,_,hk⟩
    |exact (hP.pt i hi).pcs.1
    |exact s5 hD hi
    |exact hs
  rw [bR,aX] at L'
  dsimp only at L'
  rw [El (s5 hD hi) ((zz _ _).trans hs.symm)] at L'
  exact k h' g' t' (_,_,0) _ _ _ [] rfl L'
noncomputable def qp (w:World) (P:KF) (D:PD) (l:Nat→Nat):Sp:=ii w 600 2000 fX "point" [] (λ fd=>D.pl) (λ fd=>(bk D.n D.pt)) D.n (λ fd=>⟨[],"_law_paired.<locals>.",153,D.N,[],[],[],λ _=>[],(ca λ i q=>.ref q.1),(λ i q=>[(q.1,ab (D.pts l i) q.2.1)]),[c7 w P D,kQ w P D l,D.n≤6]⟩)
theorem oZ:bO w (KP w P) (qp w P D l):=by
 refine cC (by decide) (by decide) (by kernel_rfl) (λ fd i q ys=>by simp) (λ fd z=>rfl) λ fd ho hp=>?_
 have h0:=ho _ (.head _)
 have h1:=ho _ bU
 have h2:=ho _ fG
 exact ⟨_,ab (bk D.n D.pt) D.plv,eL,.inr h0.pl,bT rfl rfl,qm h0 h1 h2⟩
end
end
section
variable {hh:Heap}{gg:BG}{dr:Drawn}{tt a ac kl kn pv acc gf an on xv kk i2 u t₀ nl nlv ea nn bn cv:Nat}{os:OsState}{fb gb:Nat→Bool}{cf tl0 old S pf nw:aq}{io o1 o2 fo:Obj}{k4 k2 k5 k6 k11 tk0 tk1 k8 k3 tk t0 t1 ta tb tb2 tc uc ti tx:Tok}{v kw c kv z:Nat→Nat}{num hs:Int}{B:TS}{tv:Nat→Int}{xs ys ps:VA}{R:RP}{txt:Str}{ot ns es:List Nat}{tq nt:Nat→Tok}{zv ov:Value}{P' K P2:KF}{α:Type}{Q:Bool→Shared→Prop}{E:Value→Shared→Prop}{V:RV}{tg e1 e2:PySem.Expr}{env:Env}{F':List Addr}{z1 z3:NN}{s:Shared}{pos:Pos}
section
variable {w:World}{P:KF}{H:Heap}{A:Around}
noncomputable abbrev AN:Around:=⟨none,620,none,none,2100⟩
noncomputable abbrev Gj (D:PD):aq:=[(D.N+3,ak (.ref D.rl)),(D.N+4,ak (.ref D.nl)),(D.N+5,ak (.ref D.pl)),(D.N+6,ak (.ref D.lf)),(D.N+12,ak (.int D.n D.k3)),(D.pl,ab (bk D.n D.pt) D.plv),(D.N+2,ak (.ref D.lk)),(D.lk,ab D.lA D.lkv)]
theorem cY {D:PD}(h:c7 w P D):∀ p∈Gj D,KP w P p.1=some p.2:=by
 simp only [f0]
 exact ⟨h.c3,h.c4,h.c5,h.c6,h.c12,h.pl,h.c2,h.lk,λ _ h=>nomatch h⟩
noncomputable abbrev kF (D:PD) (l:Nat→Nat):kJ:=λ i q=>[(q.1,ab (D.pts l i) q.2.1)]
noncomputable def pB (l:aq):aq:=l.map λ p=>(p.1,{ p.2 with slots:=#[] })
noncomputable def la (l l':aq):Prop:=pB l=pB l'
theorem la.trans {a b c:aq}(h:la a b) (h':la b c):la a c:=Eq.trans h h'
theorem la.fs {a b:aq}(h:la a b):cb a=cb b:=by
 have:=congrArg (List.map (·.1)) h
 unfold pB at this
 rw [List.map_map,List.map_map] at this
 exact this
theorem la.up (l:aq) (z:Nat→iT):la (cU l z) l:=by
 unfold la pB cU
 apply du
 ·simp
 ·intro i h1 h2;simp
noncomputable abbrev LX (D:PD) (l:Nat→Nat) (t:Nat→Tok):VA:=ah D.n (λ k=>(l k:Int)) t
noncomputable abbrev bg (D:PD) (it pp:Addr) (fl:aq):List Addr:=D.N::it::(D.N+7)::(D.N+8)::(D.N+9)::(D.N+10)::(D.N+11)::(D.N+13)::(D.N+14)::D.lf::92::99::151::pp::cb fl
noncomputable abbrev eP (D:PD) (fb:Nat→Bool) (t:Nat→Tok):VA:=ah (aB fb D.n).length (λ j=>((aB fb D.n).getD j 0:Int)) t
noncomputable abbrev ed (w:World) (D:PD) (l:Nat→Nat) (fb gb:Nat→Bool) (T:Nat) (it pp:Addr) (io:Obj) (es:List (Str×Tok×Value)) (fn:Nat) (sl:iT) (c11:Obj) (num:Int) (k4 k6:Tok) (o92 o99 o151:Obj) (t:Nat→Tok) (lv:Nat) (ps0:VA) (pn:Nat) (kw:Nat→Addr) (B:TS):aq:=
 [(D.N,aV w es fn sl),(it,io),(D.N+7,ak (.int (T:Int) k4)),(D.N+8,ak (.ref B.kl)),(D.N+9,ak (.ref B.ul)),(D.N+10,ak (.ref B.bl)),(D.N+11,c11),(D.N+13,ak (.int num k6)),(D.N+14,ak (.ref B.tl)),(D.lf,ab (LX D l t) lv),(92,o92),(99,o99),(151,o151),(pp,ab ps0 pn),
  (B.kl,ab (bk D.n kw) B.n1),(B.zl,ab (ah D.n (λ k=>(l k:Int)) B.ts) B.n2),(B.ul,ab (b6 D.n fb) B.n3),(B.bl,ab (b6 D.n gb) B.n4),(B.tl,ab (ah D.n (λ k=>-(l k:Int)) B.tu) B.n5),(B.vl,ab (eP D fb B.tv) B.n6)]
noncomputable def Ig:List Stmt:=(bA i7).take 12
noncomputable abbrev HG (D:PD) (T:Nat):Int:=((D.lo T:Int).fdiv 128).fdiv ((T:Int)+1)
noncomputable abbrev OL:=Option (Tok×Value×Tok×Value×Tok×Value)
noncomputable abbrev IW (k0:Tok) (pp:Nat) (k1:Tok) (kv:Value):OL→List (Str×Tok×Value)
 |none=>[en "pairs" k0 (.ref pp),en "k" k1 kv]
 |some (a,x,b,y,c,z)=>[en "pairs" k0 (.ref pp),en "k" k1 kv,en "sizes" a x,en "live" b y,en "others" c z]
noncomputable abbrev FF (k0:Tok) (pp:Nat) (k1:Tok) (kv:Value) (o:OL) (k:Tok) (v:Nat):List (Str×Tok×Value):=match o with
 |none=>[en "pairs" k0 (.ref pp),en "k" k1 kv,en "sizes" k (.ref v)]
 |some (a,_,b,y,c,z)=>[en "pairs" k0 (.ref pp),en "k" k1 kv,en "sizes" a (.ref v),en "live" b y,en "others" c z]
noncomputable abbrev Ii (k0:Tok) (pp:Nat) (k1:Tok) (kv:Value) (o:OL) (k:Tok) (v:Nat) (k':Tok) (u:Nat):List (Str×Tok×Value):=match o with
 |none=>[en "pairs" k0 (.ref pp),en "k" k1 kv,en "sizes" k (.ref v),en "live" k' (.ref u)]
 |some (a,_,b,_,c,z)=>[en "pairs" k0 (.ref pp),en "k" k1 kv,en "sizes" a (.ref v),en "live" b (.ref u),en "others" c z]
noncomputable def FN (o:OL) (n:Nat):Nat:=match o with|none=>n+1|some _=>n
noncomputable def Iq (o:OL) (n:Nat):Nat:=match o with|none=>n+2|some _=>n
theorem Ir {D:PD}{l:Nat→Nat}{T it pp lv fn pn:Nat}{fl cl0:aq}{el:List Env}{t:Nat→Tok}{v8 v9 v10 v11 v13 v14:Option Value}{o92 o99 o151:Obj}{sl:iT}{k0 k1:Tok}{kvl:Value}{ps0:VA}(oz:OL) (hD:c7 w P D) (hP:kQ w P D l) (hT:T < D.n+1) (hfb:∀ k,k < D.n→Nat.blt 0 (l k)=fb k) (hgb:∀ k,k < D.n→Nat.beq (l k) 0=gb k) (h92:al 61 19 o92) (hfr:dP el fl) (hcf:cf=cl0++fl) (Q:Flow→Shared→Prop) (L:ag (KP w P) H hh (bg D it pp fl) ([(D.N,aV w (IW k0 pp k1 kvl oz) fn sl),(it,io),(D.N+7,ak (.int (T:Int) k4)),(D.N+8,aF v8),(D.N+9,aF v9),(D.N+10,aF v10),(D.N+11,aF v11),(D.N+13,aF v13),(D.N+14,aF v14),(D.lf,ab (LX D l t) lv),(92,o92),(99,o99),(151,o151),(pp,ab ps0 pn)]++cf) [])
  (hQ:∀ (P':KF) (h:Heap) (g:BG) (t':Nat) (fl':aq) (sl':iT) (o92':Obj) (kw kv:Nat→Nat) (k6:Tok) (B:TS) (k2 k5:Tok),(∀ a o,KP w P a=some o→KP w P' a=some o)→c7 w P' D→kQ w P' D l→(∀ j,j < D.n→KP w P' (kw j)=some (ab (D.pts l j) (kv j)))→al 61 19 o92'→dP el fl'→la fl' fl→
   ag (KP w P') H h (bg D it pp fl) (ed w D l fb gb T it pp io (Ii k0 pp k1 kvl oz k2 B.zl k5 B.vl) (Iq oz fn) sl' (aF v11) (HG D T) k4 k6 o92' o99 o151 t lv ps0 pn kw B++(cl0++fl')) []→Q .next ⟨h,g,dr,t',os⟩):
  wpOwn (model pg w) (AQ (aQ D.N::el)) (ch D.N it) (execs Ig (aQ D.N)) Q NE ⟨hh,gg,dr,tt,os⟩:=by
 obtain ⟨N,hN⟩:=bd hh
 have hn:D.n≤6:=n6 hD
 have hm:∀ p∈fl,p∈cf:=λ p hp=>by rw [hcf];exact bu _ hp
 have hfg:∀ k,k < D.n→gb k=!fb k:=λ k hk=>fg (hfb k hk) (hgb k hk)
 obtain ⟨w,c,rfl⟩:=cB w
 refine wW [eI D.n,c0 (yN _ P D l) wn,c0 (ug _ P D l (T:Int)) rt,c0 (xM _ P D l fb) vI,c0 (xf _ P D l gb) vJ,c0 (qg _ P D l) qE,c0 (qp _ P D l) oZ] (cY hD) (bp (by kernel_rfl)) L hN [.k,.k,ib,.e,.e,.e,.e,U,U,.e,U,.e,U,U,U,.e,U,.c 0 [0],U,.c 1 [2,1,0,13],U,U,U,iY,iY,o8,gF,gF,.e,gF,.e,U,.c 2 [2,1,0,17,9],iY,iY,U,U,U,o8,gF,gF,.e,gF,.e,U,.c 3 [2,1,0,20],U,U,U,ig,ig,o8,gF,gF,.e,gF,.e,U,.c 4 [2,1,0,23],U,U,U,qa,qa,ix,iY,iY,.e,iY,.e,U,.c 5 [2,1,0,10],U,U,U,o0,o0,o8,gF,gF,.e,gF,.e,U,.c 6 [2,1,0],U,U,U,qd,ay,mf,ay,.e,ay,.s] λ ps=>?_
 refine gP AN [19,20,21,22,23,24,25,26,27,28,29,30,31,32,16,13,10,7,4,1] 33 ((((((cf++ec (kF D l) (aw (ps 1).as D.n))++ec nF (aw (ps 2).as D.n))++ec nF (aw (ps 3).as D.n))++ec nF (aw (ps 4).as D.n))++ec nF (aw (ps 5).as D.n))++ec (kF D l) (aw (ps 6).as D.n)) (λ W=>⟨.builtin "list.__ne__" ⟨[.ref ((ps 5).n+1),.ref (ps 0).n],[]⟩,true,none,[(D.1,aV W (FF k0 pp k1 kvl oz (ps 2).t ((ps 1).n+1)) (FN oz fn) sl),(it,io),(D.1+7,ak (.int ((↑T:Int)) k4)),(D.1+8,ak (.ref ((ps 0).3))),(D.1+9,ak (.ref ((ps 2).3+1))),(D.1+10,ak (.ref ((ps 3).3+1))),(D.1+11,aF v11),(D.1+13,aF v13),(D.1+14,ak (.ref ((ps 4).3+1))),(D.5,ab (LX D l t) lv),(92,dz 61 19 ((ps 4).as 4) ((ps 4).as 5)),(99,o99),(151,o151),(pp,ab ps0 pn),((ps (nat_lit 0)).3,ab (cn (ca λ i q=>Value.ref q.fst) (aw (ps 1).as D.n)) ((ps 1).6 0)),((ps (nat_lit 1)).3+1,ab (cn (ca λ i q=>Value.int (↑(l i):Int) q.fst) (aw (ps 2).as D.n)) ((ps 2).6 0)),((ps (nat_lit 2)).3+1,ab (cn (ca λ i q=>Value.bool (fb i)) (aw (ps 3).as D.n)) ((ps 3).6 0)),((ps (nat_lit 3)).3+1,ab (cn (ca λ i q=>Value.bool (gb i)) (aw (ps 4).as D.n)) ((ps 4).6 0)),((ps (nat_lit 4)).3+1,ab (cn (ca λ i q=>Value.int (-(↑(l i):Int)) q.fst) (aw (ps 5).as D.n)) ((ps 5).6 0)),((ps (nat_lit 5)).3+1,ab (cn (ca λ i q=>Value.ref q.fst) (aw (ps 6).as D.n)) ((ps 6).6 0))],[c7 W P D,kQ W P D l,D.n≤(6:Nat),wJ D l (cn (ca λ i q=>Value.int (↑(l i):Int) q.fst) (aw (ps 2).as D.n)),D.n≤(6:Nat),∀ (k:Nat),k < D.n→l k < (6:Nat),al (61:Int) (19:Int) (dz (61:Nat) (19:Nat) ((ps 3).as (4:Nat)) ((ps 3).as (5:Nat))),c7 W P D,kQ W P D l,D.n≤(6:Nat),∀ (k:Nat),k < D.n→(l k).beq (0:Nat)=gb k,al (61:Int) (19:Int) (dz (61:Nat) (19:Nat) ((ps 2).as (4:Nat)) ((ps 2).as (5:Nat))),c7 W P D,kQ W P D l,D.n≤(6:Nat),∀ (k:Nat),k < D.n→Nat.blt (0:Nat) (l k)=fb k,al (61:Int) (19:Int) o92,c7 W P D,kQ W P D l,D.n≤(6:Nat),c7 W P D,wJ D l (LX D l t),D.n≤(6:Nat),D.n < (1000:Nat)]⟩) rfl (by apply oq oz c;kernel_rfl) (by decide) (aR 14 rfl λ p hp=>by repeat (first|exact hm p hp|apply aI)) rfl rfl rfl rfl ?_ λ h g t2 L' _ md=>?_
 ·repeat' first|exact ae|refine aa ?_ ?_
  all_goals first|exact hD|exact hP|exact hn|exact BS D l _|exact λ k hk=>hP.l6 k hk|exact gW _ _ _ _|exact hgb|exact hfb|exact h92|exact ⟨t,rfl⟩|omega
 obtain ⟨kw,kv,ek,mk⟩:=jr (kF D l) (ps 1).as D.n
 obtain ⟨pw,pv,ep,mp⟩:=jr (kF D l) (ps 6).as D.n
 obtain ⟨ts,es⟩:=dB (λ k=>(l k:Int)) (ps 2).as D.n
 obtain ⟨tu,eu⟩:=dB (λ k=>-(l k:Int)) (ps 5).as D.n
 simp only [bR,aX,bC,ek,ep,es,eu,lO] at L'
 generalize hS1:ec (kF D l) (aw (ps 1).as D.n)=S1 at L' mk
 generalize hS2:ec (kF D l) (aw (ps 6).as D.n)=S2 at L' mp
 clear ek ep es eu hS1 hS2
 have kmem:∀ j,j < D.n→(kw j,ab (D.pts l j) (kv j))∈S1:=λ j hj=>by
  obtain ⟨q,e1,e2,m⟩:=mk j hj
  rw [←e1,←e2];exact m _ (.head _)
 have pmem:∀ j,j < D.n→(pw j,ab (D.pts l j) (pv j))∈S2:=λ j hj=>by
  obtain ⟨q,e1,e2,m⟩:=mp j hj
  rw [←e1,←e2];exact m _ (.head _)
 refine ut (N:=D.n) (f:=pw) (g:=kw) (D.pts l) (L'.ownAt 19 _ _ rfl) (L'.ownAt 14 _ _ rfl) (bp (by kernel_rfl)) (λ j hj=>⟨_,_,.inl ⟨L'.ownMem (bu _ (bu _ (bu _ (pmem j hj)))),L'.ownMem (bu _ (bu _ (aI _ (kmem j hj))))⟩⟩) ?_
 have L3:=L'.pickF [0,1,2,3,4,5,6,7,8,9,10,11,12,13,14,15,16,17,18] rfl (aR 14 rfl λ p hp=>aI _ (hm p hp))
 rw [←bC,←bC] at L3
 obtain ⟨L4,hS,nS⟩:=(ag.front L3 (by rw [bC];exact aR 14 rfl λ p hp=>aI _ (hm p hp))).stay (aR 14 rfl hm)
 clear L3 L' L mp mk pmem
 have hD1:c7 _ (bN P S1) D:=hD.add hS
 have hP1:kQ _ (bN P S1) D l:=hP.add hS
 have hkw:∀ j,j < D.n→KP _ (bN P S1) (kw j)=some (ab (D.pts l j) (kv j)):=λ j hj=>cy nS hS (kmem j hj)
 have hS0:=hS
 clear kmem nS hD hP
 generalize (ps 0).n=kl at L4
 generalize (ps 1).n+1=zl at L4
 generalize (ps 2).n+1=ul at L4
 generalize (ps 3).n+1=bl at L4
 generalize (ps 4).n+1=tl at L4
 generalize (ps 2).t=k2 at L4
 generalize (ps 4).as 4=za at L4
 generalize (ps 4).as 5=zb at L4
 generalize (ps 1).as 0=n1 at L4
 generalize (ps 2).as 0=n2 at L4
 generalize (ps 3).as 0=n3 at L4
 generalize (ps 4).as 0=n4 at L4
 generalize (ps 5).as 0=n5 at L4
 obtain ⟨M,hM⟩:=bd h
 refine ma (cz id Q NE) [y3 true,c0 (uK _ (bN P S1) D l) sZ,G4 false,c0 (yL _ (bN P S1) D l) wB,d5 (LX D l ts) 0 (.int (l 0) (ts 0))] (cY hD1) hM [U,iD,dX,ow,dX,.e,dX,.c 0 [15,9],U,dX,dX,.e,dX,.e,U,.c 1 [2,1,0,18],U,U,U,ay,ay,.e,ay,.c 2 [1],jP,iD,qz,qz,.e,qz,.e,U,.c 3 [2,1,0,15],U,U,U,o0,ay,o0,.e,o0,.c 0 [24,1],.k,dR,m8,m8,m8,.e,m8,.c 4 [21],mW,.e,.e,.k,.s] L4 md λ ps1=>?_
 refine eC (AH (aQ D.N::el)) [6,7,8,9,10,11,12,13,14,15,16,17,18,19,20,21,22,23,24] 25 ((cf++ec nF (aw (ps1 1).as D.n))++ec nF (aw (ps1 3).as D.n)) (λ W=>⟨.call (.ref 50) ⟨[.int (l 0) (ts 0),.int ((T:Int) - 3) ((ps1 5).t+1)],[]⟩,true,none,some (aQ D.N::el),[(D.1,aV W (FF k0 pp k1 kvl oz k2 zl) (FN oz fn) sl),(it,io),(D.1+7,ak (.int ((↑T:Int)) k4)),(D.1+8,ak (.ref kl)),(D.1+9,ak (.ref ul)),(D.1+10,ak (.ref bl)),(D.1+11,aF v11),(D.1+13,aF v13),(D.1+14,ak (.ref tl)),(D.5,ab (LX D l t) lv),(92,dz 61 19 za zb),(99,o99),(151,o151),(pp,ab ps0 pn),(kl,ab (bk D.n kw) n1),(zl,ab (ah D.n (λ k=>(↑(l k):Int)) ts) n2),(ul,ab (b6 D.n fb) n3),(bl,ab (b6 D.n gb) n4),(tl,ab (ah D.n (λ k=>-(↑(l k):Int)) tu) n5)],[iz (0:Int),(LX D l ts)[Int.toNat (0:Int)]?=some (Value.int (↑(l (0:Nat)):Int) (ts (0:Nat))),bx (ah D.n (λ k=>-(↑(l k):Int)) tu) (cn (ca λ i q=>Value.int ((0:Int) - (↑(l i):Int)) q.fst) (aw (ps1 3).as D.n)) true,wJ D l (LX D l t),D.n≤(6:Nat),∀ (k:Nat),k < D.n→l k < (6:Nat),Cx (cn (ca λ i q=>Value.bool false) (aw (ps1 1).as D.n)) (Value.bool true) false,wJ D l (ah D.n (λ k=>(↑(l k):Int)) ts),D.n≤(6:Nat),∀ (k:Nat),k < D.n→l k < (6:Nat),bx (ah D.n (λ k=>(↑(l k):Int)) ts) (LX D l t) true]⟩) rfl (by apply oq oz c;kernel_rfl) (by decide) (aR 14 rfl λ p hp=>by repeat (first|exact hm p hp|apply aI)) rfl rfl rfl rfl ?_ λ h g t3 L' _ md=>?_
 ·repeat' first|exact ae|refine aa ?_ ?_
  all_goals first|exact aG (k:=0) (Nat.succ_pos _)|exact ⟨by decide,by decide⟩|exact zN λ k=>(Int.zero_sub _).symm|exact nI λ k=>rfl|exact B9|exact ⟨_,rfl⟩|exact hn|exact λ k hk=>hP1.l6 k hk|omega
 clear L4
 simp only [bR,aX] at L'
 rw [hcf] at L'
 refine xd (FK hfr) L'.framesC _ λ h t4 z Lz=>?_
 rw [gC] at Lz
 have L3:=L'.framesD Lz (iF _ _)
 clear L' Lz
 have hfr:=hfr.up λ i=>z (i+1)
 have hff:la (cU fl λ i=>z (i+1)) fl:=la.up _ _
 generalize cU fl (λ i=>z (i+1))=fl1 at L3 hfr hff
 generalize z 0=sl1 at L3
 obtain ⟨cf1,hcf1⟩:=G3 (cl0++fl1)
 rw [←hcf1] at L3
 have hm1:∀ p∈fl1,p∈cf1:=λ p hp=>by rw [hcf1];exact bu _ hp
 obtain ⟨M,hM⟩:=bd h
 refine ma (cz id Q NE) [xe ((T:Int) - 3) ((T:Int) - 3) false] (cY hD1) hM [aj,.e,.e,.e,.c 0 [],.k,aj,.k,.s] L3 md λ ps2=>?_
 refine eC (AH (aQ D.N::el)) [0,1,2,3,4,5,6,7,8,9,10,11,12,13,14,15,16,17,18] 19 cf1 (λ W=>⟨.call (.ref 50) ⟨[.int T k4],[]⟩,true,none,some (aQ D.N::el),[(D.1,aV W (FF k0 pp k1 kvl oz k2 zl) (FN oz fn) sl1),(it,io),(D.1+7,ak (.int ((↑T:Int)) k4)),(D.1+8,ak (.ref kl)),(D.1+9,ak (.ref ul)),(D.1+10,ak (.ref bl)),(D.1+11,aF v11),(D.1+13,aF v13),(D.1+14,ak (.ref tl)),(D.5,ab (LX D l t) lv),(92,dz 61 19 za zb),(99,o99),(151,o151),(pp,ab ps0 pn),(kl,ab (bk D.n kw) n1),(zl,ab (ah D.n (λ k=>(↑(l k):Int)) ts) n2),(ul,ab (b6 D.n fb) n3),(bl,ab (b6 D.n gb) n4),(tl,ab (ah D.n (λ k=>-(↑(l k):Int)) tu) n5)],[((↑T:Int) - (3:Int)!=(↑T:Int) - (3:Int))=false]⟩) rfl (by apply oq oz c;kernel_rfl) (by decide) (aR 14 (by rw [hff.fs];rfl) hm1) rfl rfl rfl rfl ?_ λ h g t5 L' _ md=>?_
 ·repeat' first|exact ae|refine aa ?_ ?_
  exact bne_self_eq_false _
 clear L3
 rw [hcf1] at L'
 refine xg (FK hfr) L'.framesC _ λ h t6 z Lz=>?_
 rw [gC] at Lz
 have L3:=L'.framesD Lz (iF _ _)
 clear L' Lz
 have hfr:=hfr.up λ i=>z (i+1)
 have hff:la (cU fl1 λ i=>z (i+1)) fl:=(la.up _ _).trans hff
 generalize cU fl1 (λ i=>z (i+1))=fl2 at L3 hfr hff
 generalize z 0=sl2 at L3
 obtain ⟨cf2,hcf2⟩:=G3 (cl0++fl2)
 rw [←hcf2] at L3
 have hm2:∀ p∈fl2,p∈cf2:=λ p hp=>by rw [hcf2];exact bu _ hp
 obtain ⟨M,hM⟩:=bd h
 refine ma (cz id Q NE) [eI D.n,c0 (xI _ (bN P S1) D fb) vn,c0 (xW _ (bN P S1) D l fb gb) wz] (cY hD1) hM [.e,.e,.k,.k,ib,.e,.e,.e,.e,U,U,.e,U,.e,U,U,U,.e,U,.c 0 [0],U,.c 1 [2,1,0,8,20],U,U,U,iD,ix,ix,.e,ix,.e,U,.c 2 [2,1,0,16],U,U,U,aK,ay,aK,.e,aK,.s] L3 md λ ps3=>?_
 refine gP AN [7,8,9,10,11,12,13,14,15,16,17,18,19,20,21,22,23,24,25,4,1] 26 ((cf2++ec (Ah fb λ i=>!fb i) (aw (ps3 1).as D.n))++ec (Ah fb gb) (aw (ps3 2).as D.n)) (λ W=>⟨.builtin "list.__ne__" ⟨[.ref (ps3 0).n,.ref ((ps3 1).n+1)],[]⟩,true,none,[(D.1,aV W (FF k0 pp k1 kvl oz k2 zl) (FN oz fn) sl2),(it,io),(D.1+7,ak (.int ((↑T:Int)) k4)),(D.1+8,ak (.ref kl)),(D.1+9,ak (.ref ul)),(D.1+10,ak (.ref bl)),(D.1+11,aF v11),(D.1+13,aF v13),(D.1+14,ak (.ref tl)),(D.5,ab (LX D l t) lv),(92,dz 61 19 za zb),(99,o99),(151,o151),(pp,ab ps0 pn),(kl,ab (bk D.n kw) n1),(zl,ab (ah D.n (λ k=>(↑(l k):Int)) ts) n2),(ul,ab (b6 D.n fb) n3),(bl,ab (b6 D.n gb) n4),(tl,ab (ah D.n (λ k=>-(↑(l k):Int)) tu) n5),((ps3 (nat_lit 0)).3,ab (cn (ca λ i q=>Value.ref q.fst) (aw (ps3 1).as D.n)) ((ps3 1).6 0)),((ps3 (nat_lit 1)).3+1,ab (cn (ca λ i q=>Value.ref q.fst) (aw (ps3 2).as D.n)) ((ps3 2).6 0))],[wJ D l (LX D l t),D.n≤(6:Nat),∀ (k:Nat),k < D.n→Nat.blt (0:Nat) (l k)=fb k,∀ (k:Nat),k < D.n→(l k).beq (0:Nat)=gb k,D.n≤(6:Nat),D.n < (1000:Nat)]⟩) rfl (by apply oq oz c;kernel_rfl) (by decide) (aR 14 (by rw [hff.fs];rfl) λ p hp=>by repeat (first|exact hm2 p hp|apply aI)) rfl rfl rfl rfl ?_ λ h g t7 L' _ md=>?_
 ·repeat' first|exact ae|refine aa ?_ ?_
  all_goals first|exact ⟨_,rfl⟩|exact hn|exact hfb|exact hgb|omega
 clear L3
 rw [bC] at L'
 have L3:=L'.pickF [0,1,2,3,4,5,6,7,8,9,10,11,12,13,14,15,16,17,18] rfl (aR 14 (by rw [hff.fs];rfl) λ p hp=>aI _ (hm2 p hp))
 rw [←bC,←bC] at L3
 have L3:=(ag.front L3 (by rw [bC];exact aR 14 (by rw [hff.fs];rfl) λ p hp=>aI _ (hm2 p hp))).front (aR 14 (by rw [hff.fs];rfl) hm2)
 refine w0 (i:=19) (j:=20) (λ k hk=>⟨rfl,(hfg k hk).symm⟩) L' rfl rfl (bp (by kernel_rfl)) ?_
 clear L'
 obtain ⟨M,hM⟩:=bd h
 refine ma (cz id Q NE) [eI D.n,c0 (ym _ (bN P S1) D gb) vy,c0 (xR _ (bN P S1) D l fb gb) vR] (cY hD1) hM [.k,.k,ib,.e,.e,.e,.e,U,U,.e,U,.e,U,U,U,.e,U,.c 0 [0],U,.c 1 [2,1,0,9,21],U,U,U,iD,ix,ix,.e,ix,.e,U,.c 2 [2,1,0,16],U,U,U,aK,ay,aK,.e,aK,.s] L3 md λ ps4=>?_
 refine gP AN [7,8,9,10,11,12,13,14,15,16,17,18,19,20,21,22,23,24,25,4,1] 26 ((cf2++ec (Ah (λ i=>!gb i) gb) (aw (ps4 1).as D.n))++ec (Ah fb gb) (aw (ps4 2).as D.n)) (λ W=>⟨.builtin "list.__ne__" ⟨[.ref (ps4 0).n,.ref ((ps4 1).n+1)],[]⟩,true,none,[(D.1,aV W (FF k0 pp k1 kvl oz k2 zl) (FN oz fn) sl2),(it,io),(D.1+7,ak (.int ((↑T:Int)) k4)),(D.1+8,ak (.ref kl)),(D.1+9,ak (.ref ul)),(D.1+10,ak (.ref bl)),(D.1+11,aF v11),(D.1+13,aF v13),(D.1+14,ak (.ref tl)),(D.5,ab (LX D l t) lv),(92,dz 61 19 za zb),(99,o99),(151,o151),(pp,ab ps0 pn),(kl,ab (bk D.n kw) n1),(zl,ab (ah D.n (λ k=>(↑(l k):Int)) ts) n2),(ul,ab (b6 D.n fb) n3),(bl,ab (b6 D.n gb) n4),(tl,ab (ah D.n (λ k=>-(↑(l k):Int)) tu) n5),((ps4 (nat_lit 0)).3,ab (cn (ca λ i q=>Value.ref q.fst) (aw (ps4 1).as D.n)) ((ps4 1).6 0)),((ps4 (nat_lit 1)).3+1,ab (cn (ca λ i q=>Value.ref q.fst) (aw (ps4 2).as D.n)) ((ps4 2).6 0))],[wJ D l (LX D l t),D.n≤(6:Nat),∀ (k:Nat),k < D.n→Nat.blt (0:Nat) (l k)=fb k,∀ (k:Nat),k < D.n→(l k).beq (0:Nat)=gb k,D.n≤(6:Nat),D.n < (1000:Nat)]⟩) rfl (by apply oq oz c;kernel_rfl) (by decide) (aR 14 (by rw [hff.fs];rfl) λ p hp=>by repeat (first|exact hm2 p hp|apply aI)) rfl rfl rfl rfl ?_ λ h g t8 L' _ md=>?_
 ·repeat' first|exact ae|refine aa ?_ ?_
  all_goals first|exact ⟨_,rfl⟩|exact hn|exact hfb|exact hgb|omega
 clear L3
 rw [bC] at L'
 have L3:=L'.pickF [0,1,2,3,4,5,6,7,8,9,10,11,12,13,14,15,16,17,18] rfl (aR 14 (by rw [hff.fs];rfl) λ p hp=>aI _ (hm2 p hp))
 rw [←bC,←bC] at L3
 have L3:=(ag.front L3 (by rw [bC];exact aR 14 (by rw [hff.fs];rfl) λ p hp=>aI _ (hm2 p hp))).front (aR 14 (by rw [hff.fs];rfl) hm2)
 refine w0 (i:=19) (j:=20) (λ k hk=>⟨by rw [hfg k hk,Bool.not_not],rfl⟩) L' rfl rfl (bp (by kernel_rfl)) ?_
 clear L'
 obtain ⟨M,hM⟩:=bd h
 refine ma (cz id Q NE) [d5 D.lA T (.int (D.lo T) (D.tl T)),uH,eI D.n,c0 (w8 _ (bN P S1) D fb) wR] (cY hD1) hM [Hh,aj,kY,kY,kY,.e,kY,.c 0 [2007],.e,.c 1 [],aj,.e,.e,.e,.c 1 [],iY,iY,.k,.k,ib,.e,.e,.e,.e,U,U,.e,U,.e,U,U,U,.e,U,.c 2 [0],U,.c 3 [2,1,0,8,20],aK,aK,U,U,U] L3 md λ ps5=>?_
 refine bt rfl [4,5,6,7,8,9,10,11,12,13,14,15,16,17,18,19,20,21,22,1] 23 (cf2++ec nF (aw (ps5 4).as D.n)) (λ W=>⟨.ok .next,[(D.1,aV W (Ii k0 pp k1 kvl oz k2 zl (ps5 4).t (ps5 3).n) (Iq oz fn) sl2),(it,io),(D.1+7,ak (.int ((↑T:Int)) k4)),(D.1+8,ak (.ref kl)),(D.1+9,ak (.ref ul)),(D.1+10,ak (.ref bl)),(D.1+11,aF v11),(D.1+13,ak (.int (Int.fdiv (Int.fdiv ((↑(D.lo T):Int)) 128) (((↑T:Int))+1)) ((ps5 2).6 0))),(D.1+14,ak (.ref tl)),(D.5,ab (LX D l t) lv),(92,dz 61 19 za zb),(99,o99),(151,o151),(pp,ab ps0 pn),(kl,ab (bk D.n kw) n1),(zl,ab (ah D.n (λ k=>(↑(l k):Int)) ts) n2),(ul,ab (b6 D.n fb) n3),(bl,ab (b6 D.n gb) n4),(tl,ab (ah D.n (λ k=>-(↑(l k):Int)) tu) n5),((ps5 (nat_lit 3)).3,ab (cn (kU fb) (aw (ps5 4).as D.n)) ((ps5 4).as 0))],[D.n≤(6:Nat),D.n < (1000:Nat),(↑T:Int)+(1:Int)≠(0:Int),Builtin.divisionGoesByPylong ((↑(D.lo T):Int).fdiv (128:Int)) ((↑T:Int)+(1:Int))=false,(128:Int)≠(0:Int),Builtin.divisionGoesByPylong (↑(D.lo T):Int) (128:Int)=false,iz (↑T:Int),D.lA[(↑T:Int).toNat]?=some (Value.int (↑(D.lo T):Int) (D.tl T))]⟩) rfl .next (by apply oq oz c;kernel_rfl) rfl (by decide) (aR 14 (by rw [hff.fs];rfl) λ p hp=>by repeat (first|exact hm2 p hp|apply aI)) ?_ λ h g t9 L'=>?_
 ·repeat' first|exact ae|refine aa ?_ ?_
  all_goals first|exact hD1.look T (by omega)|exact j7 ⟨by omega,by have:=hD1.lo9 T;omega⟩|exact j7 (yK (hD1.lo9 T))|exact hn|omega|exact ⟨by omega,by omega⟩
 clear L3
 obtain ⟨tv,ev⟩:=jE fb (ps5 4).as D.n
 rw [bR,aX,ev,hcf2] at L'
 exact hQ (bN P S1) h g t9 fl2 sl2 _ kw kv _ ⟨kl,zl,ul,bl,tl,_,n1,n2,n3,n4,n5,_,ts,tu,tv⟩ k2 _ (λ a o e=>b0 hS0 e) hD1 hP1 hkw (gW _ _ _ _) hfr hff L'
end
section
variable {w:World}{P:KF}{H:Heap}{A:Around}
noncomputable def BA:List Stmt:=((bA i7).drop 12).take 1
theorem ED {n:Nat}{v:Nat→Int}{t:Nat→Tok}(h:(aB fb n).length=0):bx (ah (aB fb n).length v t) #[] true:=by
 have z:=o4 (n:=(aB fb n).length) (v:=v) (t:=t)
 rw [decide_eq_true h] at z;exact z
theorem EV {n:Nat}{v:Nat→Int}{t:Nat→Tok}(h:(aB fb n).length≠0):bx (ah (aB fb n).length v t) #[] false:=by
 have z:=o4 (n:=(aB fb n).length) (v:=v) (t:=t)
 rw [decide_eq_false h] at z;exact z
theorem A9 (fb:Nat→Bool) (n:Nat):(aB fb n).length≤n:=by
 unfold aB;exact cP (List.length_filter_le _ _) (by simp)
theorem F6 {n:Nat}{v:Nat→Int}{t:Nat→Tok}(h:n≤6):(ah (aB fb n).length v t).size≤1000:=by
 rw [au];have:=A9 fb n;lia
theorem Ft {n:Nat}{v:Nat→Int}{t:Nat→Tok}(h:(aB fb n).length≠0):((ah (aB fb n).length v t).size:Int)≠0:=by
 rw [au];lia
theorem GW {n:Nat}(h:n≠0) (hn:0≤num∧num < 10 ^ 9):0≤num.fmod (n:Int)∧num.fmod (n:Int) < 2 ^ 63:=by
 rw [Int.fmod_eq_emod_of_nonneg _ (by lia)]
 have h1:=Int.emod_nonneg num (show (n:Int)≠0 by lia)
 have h2:=Int.emod_add_mul_ediv num (n:Int)
 have h3:0≤(n:Int) * (num / (n:Int)):=Int.mul_nonneg (by lia) (Int.ediv_nonneg hn.1 (by lia))
 lia
theorem EQ {n:Nat}{v:Nat→Int}{t:Nat→Tok}(h:(aB fb n).length≠0) (hn:0≤num∧num < 10 ^ 9):0≤num.fmod ((ah (aB fb n).length v t).size:Int)∧num.fmod ((ah (aB fb n).length v t).size:Int) < 2 ^ 63:=by
 rw [au];exact GW h hn
theorem y4 {D:PD}{t:Nat→Tok}{tkn:Nat}(h:(aB fb D.n)[(num.fmod ((aB fb D.n).length:Int)).toNat]?=some tkn):(eP D fb t)[(num.fmod ((eP D fb t).size:Int)).toNat]?=some (.int tkn (t (num.fmod ((aB fb D.n).length:Int)).toNat)):=by
 rw [au]
 generalize num.fmod ((aB fb D.n).length:Int)=z at *
 have hl:z.toNat < (aB fb D.n).length:=(j0.mp h).1
 rw [aG hl]
 have:(aB fb D.n).getD z.toNat 0=tkn:=by rw [hW,h];rfl
 rw [this]
theorem GP {D:PD}{l:Nat→Nat}{T it pp lv fn pn:Nat}{fl:aq}{el:List Env}{t:Nat→Tok}{o92 o99 o151:Obj}{v11:Option Value}{sl:iT}{k0 k1:Tok}{kvl:Value}{er:List (Str×Tok×Value)}{ps0:VA}(hl:(aB fb D.n).length=0) (hD:c7 w P D) (hnum:0≤num∧num < 10 ^ 9) (hfl:∀ p∈fl,p∈tl0) (Q:Flow→Shared→Prop) (L:ag (KP w P) H hh (bg D it pp fl) (ed w D l fb gb T it pp io (en "pairs" k0 (.ref pp)::en "k" k1 kvl::en "sizes" k2 (.ref B.zl)::en "live" k5 (.ref B.vl)::er) fn sl (aF v11) num k4 k6 o92 o99 o151 t lv ps0 pn kw B++tl0) [])
  (hQ:∀ (h:Heap) (g:BG) (t':Nat) (k11:Tok),ag (KP w P) H h (bg D it pp fl) (ed w D l fb gb T it pp io (en "pairs" k0 (.ref pp)::en "k" k1 kvl::en "sizes" k2 (.ref B.zl)::en "live" k5 (.ref B.vl)::er) fn sl (ak (.int 0 k11)) num k4 k6 o92 o99 o151 t lv ps0 pn kw B++tl0) []→Q .next ⟨h,g,dr,t',os⟩):
  wpOwn (model pg w) (AQ (aQ D.N::el)) (ch D.N it) (execs BA (aQ D.N)) Q NE ⟨hh,gg,dr,tt,os⟩:=by
 obtain ⟨N,hN⟩:=bd hh
 obtain ⟨w,c,rfl⟩:=cB w
 refine wW [y3 true] (cY hD) (bp (by kernel_rfl)) L hN [U,df,U,df,.e,df,.c 0 [20,0],iY,iY] λ ps=>?_
 refine bt rfl [1,2,3,4,5,6,7,8,9,10,11,12,13,14,15,16,17,18,19,20] 21 tl0 (λ W=>⟨.ok .next,ed W D l fb gb T it pp io (en "pairs" k0 (.ref pp)::en "k" k1 kvl::en "sizes" k2 (.ref B.zl)::en "live" k5 (.ref B.vl)::er) fn sl (ak (.int 0 ((ps 0).4))) num k4 k6 o92 o99 o151 t lv ps0 pn kw B,[bx (eP D fb B.tv) #[] true]⟩) rfl .next (by apply bq c;kernel_rfl) rfl (by decide) (aR 14 rfl hfl) ?_ λ h g t9 L'=>?_
 ·repeat' first|exact ae|refine aa ?_ ?_
  all_goals first|exact ED hl|lia
 exact hQ h g t9 _ L'
theorem FX {D:PD}{l:Nat→Nat}{T it pp lv fn pn:Nat}{fl:aq}{el:List Env}{t:Nat→Tok}{o92 o99 o151:Obj}{v11:Option Value}{sl:iT}{k0 k1:Tok}{kvl:Value}{er:List (Str×Tok×Value)}{ps0:VA}{tkn:Nat}(hl:(aB fb D.n).length≠0) (htk:(aB fb D.n)[(num.fmod ((aB fb D.n).length:Int)).toNat]?=some tkn) (hD:c7 w P D) (hnum:0≤num∧num < 10 ^ 9) (hfl:∀ p∈fl,p∈tl0) (Q:Flow→Shared→Prop) (L:ag (KP w P) H hh (bg D it pp fl) (ed w D l fb gb T it pp io (en "pairs" k0 (.ref pp)::en "k" k1 kvl::en "sizes" k2 (.ref B.zl)::en "live" k5 (.ref B.vl)::er) fn sl (aF v11) num k4 k6 o92 o99 o151 t lv ps0 pn kw B++tl0) [])
  (hQ:∀ (h:Heap) (g:BG) (t':Nat) (k11:Tok),ag (KP w P) H h (bg D it pp fl) (ed w D l fb gb T it pp io (en "pairs" k0 (.ref pp)::en "k" k1 kvl::en "sizes" k2 (.ref B.zl)::en "live" k5 (.ref B.vl)::er) fn sl (ak (.int tkn k11)) num k4 k6 o92 o99 o151 t lv ps0 pn kw B++tl0) []→Q .next ⟨h,g,dr,t',os⟩):
  wpOwn (model pg w) (AQ (aQ D.N::el)) (ch D.N it) (execs BA (aQ D.N)) Q NE ⟨hh,gg,dr,tt,os⟩:=by
 obtain ⟨N,hN⟩:=bd hh
 obtain ⟨w,c,rfl⟩:=cB w
 refine wW [y3 false,CT,rn,d5 (eP D fb B.tv) (num.fmod ((eP D fb B.tv).size:Int)) (.int tkn (B.tv (num.fmod ((aB fb D.n).length:Int)).toNat))] (cY hD) (bp (by kernel_rfl)) L hN [U,df,U,df,.e,df,.c 0 [20,0],ay,mW,.k,.k,ay,.c 1 [20],.e,.c 2 [],df,df,df,.e,df,.c 3 [20],iY,iY] λ ps=>?_
 refine bt rfl [1,2,3,4,5,6,7,8,9,10,11,12,13,14,15,16,17,18,19,20] 21 tl0 (λ W=>⟨.ok .next,ed W D l fb gb T it pp io (en "pairs" k0 (.ref pp)::en "k" k1 kvl::en "sizes" k2 (.ref B.zl)::en "live" k5 (.ref B.vl)::er) fn sl (ak (.int ((↑tkn:Int)) (B.15 (num.fmod (↑(aB fb D.n).length:Int)).toNat))) num k4 k6 o92 o99 o151 t lv ps0 pn kw B,[(0:Int)≤num.fmod (↑(eP D fb B.tv).size:Int)∧num.fmod (↑(eP D fb B.tv).size:Int) < (2:Int) ^ (63:Nat),(eP D fb B.tv)[(num.fmod (↑(eP D fb B.tv).size:Int)).toNat]?=some (Value.int (↑tkn:Int) (B.tv (num.fmod (↑(aB fb D.n).length:Int)).toNat)),(↑(eP D fb B.tv).size:Int)≠(0:Int),(eP D fb B.tv).size≤(1000:Nat),bx (eP D fb B.tv) #[] false]⟩) rfl .next (by apply bq c;kernel_rfl) rfl (by decide) (aR 14 rfl hfl) ?_ λ h g t9 L'=>?_
 ·repeat' first|exact ae|refine aa ?_ ?_
  all_goals first|exact EV hl|exact F6 (n6 hD)|exact Ft hl|exact y4 htk|exact EQ hl hnum|lia
 exact hQ h g t9 _ L'
end
section
variable {w:World}{P:KF}{H:Heap}{A:Around}
noncomputable def xD:List Stmt:=((bA i7).drop 13).take 2
noncomputable def gq (tkn k:Nat):Bool:=!(Nat.beq k tkn)
noncomputable abbrev oN (D:PD) (tkn j:Nat):Nat:=(aB (gq tkn) D.n).getD j 0
noncomputable abbrev cN (D:PD) (tkn:Nat):Nat:=(aB (gq tkn) D.n).length
theorem Db {tkn:Nat}(k:Nat):((k:Int)!=(tkn:Int))=gq tkn k:=by
 unfold gq
 by_cases h:k=tkn
 ·subst h;simp
 ·have h1:¬ (k:Int)=(tkn:Int):=by lia
  have h2:Nat.beq k tkn=false:=by
   cases q:Nat.beq k tkn with
   |false=>rfl
   |true=>exact absurd (fW q) h
  rw [h2];simpa using h1
theorem pi (b:Nat→Bool) (n:Nat):(aB b n).Pairwise (· < ·):=List.pairwise_lt_range.filter b
theorem jH {b:Nat→Bool}{n k:Nat}:k∈aB b n↔k < n∧b k=true:=by unfold aB;simp
theorem CL:∀ (n tkn:Nat),tkn < n→(aB (gq tkn) n).length+1=n:=by
 intro n
 induction n with
 |zero=>intro t h;lia
 |succ n ih=>
  intro t h
  have ep:aB (gq t) (n+1)=aB (gq t) n++(if gq t n then [n] else []):=by
   unfold aB
   rw [List.range_succ,List.filter_append]
   simp [List.filter_cons]
  rw [ep,List.length_append]
  by_cases e:t=n
  ·subst e
   have h1:gq t t=false:=by unfold gq;rw [Nat.beq_refl];rfl
   have h2:aB (gq t) t=List.range t:=by
    unfold aB
    refine List.filter_eq_self.mpr λ a ha=>?_
    have:a < t:=List.mem_range.mp ha
    unfold gq
    cases q:Nat.beq a t with
    |false=>rfl
    |true=>have:=fW q;lia
   rw [h1,h2];simp
  ·have h1:gq t n=true:=by
    unfold gq
    cases q:Nat.beq n t with
    |false=>rfl
    |true=>have:=fW q;lia
   rw [h1]
   have:=ih t (by lia)
   simp;lia
theorem m5 {D:PD}(h:c7 w P D):D.m≤5:=by have:=h.n56;lia
theorem tG {D:PD}(h:c7 w P D):D.n < 1000:=by have:=n6 h;lia
theorem jI {D:PD}{k:Nat}(h:c7 w P D) (hk:k < D.n):(0:Int)≤(k:Int)∧(k:Int) < 2 ^ 63:=by have:=n6 h;lia
theorem EF {D:PD}{tkn:Nat}(h:D.m=4∨D.m=5) (ht:tkn < D.n):cN D tkn=4∨cN D tkn=5:=by
 have:=CL D.n tkn ht
 have e:D.n=D.m+1:=rfl
 have e2:cN D tkn=(aB (gq tkn) D.n).length:=rfl
 lia
theorem ui {D:PD}{tkn j:Nat}(h:j < cN D tkn):oN D tkn j < D.n∧oN D tkn j≠tkn:=by
 have hm:oN D tkn j∈aB (gq tkn) D.n:=by
  unfold oN;rw [hW,dT h];exact List.getElem_mem h
 obtain ⟨h1,h2⟩:=jH.mp hm
 refine ⟨h1,λ e=>?_⟩
 rw [e] at h2
 unfold gq at h2
 rw [Nat.beq_refl] at h2;cases h2
theorem Em {D:PD}{tkn i j:Nat}(hi:i < cN D tkn) (hj:j < cN D tkn) (e:oN D tkn i=oN D tkn j):i=j:=by
 unfold oN at e
 rw [hW,hW,dT hi,dT hj] at e
 have z:=List.pairwise_iff_getElem.mp (pi (gq tkn) D.n)
 rcases Nat.lt_trichotomy i j with q|q|q
 ·have:=z i j hi hj q;simp at e;lia
 ·exact q
 ·have:=z j i hj hi q;simp at e;lia
theorem gw {D:PD}{tkn:Nat}:(dW D.m num tv (oN D tkn) (cN D tkn)).Nodup:=by
 unfold dW
 refine List.pairwise_iff_getElem.mpr λ i j hi hj ij e=>?_
 simp only [fH,List.length_range] at hi hj
 simp only [List.getElem_map,List.getElem_range] at e
 have h1:=(ui hi).1
 have h2:=(ui hj).1
 have e2:=congrArg Prod.snd e
 simp only at e2
 have:oN D tkn i=oN D tkn j:=by
  generalize oN D tkn i=a at *
  generalize oN D tkn j=b at *
  generalize num.fdiv 7=z at *
  have hn:(0:Int) < ((D.m+1:Nat):Int):=by lia
  rw [Int.fmod_eq_emod_of_nonneg _ (by lia),Int.fmod_eq_emod_of_nonneg _ (by lia)] at e2
  have e3:=Int.emod_emod_of_dvd ((a:Int)+z - ((b:Int)+z)) (Int.dvd_refl ((D.m+1:Nat):Int))
  have e4:((a:Int)+z - ((b:Int)+z)) % ((D.m+1:Nat):Int)=0:=by
   rw [Int.sub_emod,e2];simp
  have e5:((a:Int)+z - ((b:Int)+z))=(a:Int) - b:=by lia
  rw [e5] at e4
  obtain ⟨q,hq⟩:=Int.dvd_of_emod_eq_zero e4
  unfold PD.n at h1 h2
  have hq0:q=0:=by
   rcases Int.lt_trichotomy q 0 with c|c|c
   ·have:((D.m+1:Nat):Int) * q≤((D.m+1:Nat):Int) * (-1):=Int.mul_le_mul_of_nonneg_left (by lia) (by lia)
    lia
   ·exact c
   ·have:((D.m+1:Nat):Int) * 1≤((D.m+1:Nat):Int) * q:=Int.mul_le_mul_of_nonneg_left (by lia) (by lia)
    lia
  rw [hq0] at hq
  lia
 have:=Em hi hj this
 lia
noncomputable def eK (D:PD) (l:Nat→Nat) (num:Int) (tkn:Nat):List Nat:=((cA (dW D.m num (λ k=>-(l k:Int)) (oN D tkn) (cN D tkn))).toList.map (oN D tkn)).take (l tkn)
theorem uX {c z:Nat}{o:Nat→Nat}{t:Nat→Tok}{p:List Nat}(hp:∀ i∈p,i < c):∃ tq,(((p.map λ i=>(ah c (λ j=>(o j:Int)) t).toList.getD i .none).toArray).toList.take z).toArray=ah ((p.map o).take z).length (λ j=>(((p.map o).take z).getD j 0:Int)) tq:=by
 refine ⟨λ j=>t ((p.take z).getD j 0),?_⟩
 unfold ah
 congr 1
 apply du
 ·simp
 ·intro i h1 h2
  have h3:i < p.length:=by simp at h1;lia
  have h4:i < z:=by simp at h1;lia
  have hm:=hp p[i] (List.getElem_mem h3)
  simp [h3,h4,hm,List.getElem?_take_of_lt h4,hW]
noncomputable def wt (o:Obj):Prop:=∃ v t,o=kN v t
theorem Gy {o:Obj}(h:o=kN (bm o) (bE (bm o 1))):wt o:=⟨_,_,h⟩
theorem uA {D:PD}{tkn:Nat}(h:D.m=4∨D.m=5) (ht:tkn < D.n) (num:Int) (tv:Nat→Int):∀ i∈(cA (dW D.m num tv (oN D tkn) (cN D tkn))).toList,i < cN D tkn:=λ i hi=>by
 obtain ⟨_,s2,_⟩:=iy (ks:=dW D.m num tv (oN D tkn) (cN D tkn)) (by rw [dq];exact EF h ht) gw
 have:=s2.mem_iff.mp hi
 rw [dq] at this
 exact List.mem_range.mp this
theorem zi {D:PD}{tkn:Nat}{f:Nat→Value}{x:Nat}(h:D.m=4∨D.m=5) (ht:tkn < D.n):(List.map f (cA (dW D.m num tv (oN D tkn) (cN D tkn))).toList).toArray.size≤1000∧0≤(x:Int):=by
 obtain ⟨_,s2,_⟩:=iy (ks:=dW D.m num tv (oN D tkn) (cN D tkn)) (by rw [dq];exact EF h ht) gw
 have e:=s2.length_eq
 rw [dq,List.length_range] at e
 rw [List.size_toArray,fH,e]
 have:=EF h ht
 exact ⟨by lia,by lia⟩
theorem GX {D:PD}{l:Nat→Nat}{T it pp lv fn pn:Nat}{fl:aq}{el:List Env}{t:Nat→Tok}{o92 o99:Obj}{sl:iT}{k0 k1:Tok}{kvl:Value}{er:List (Str×Tok×Value)}{ps0:VA}{tkn:Nat}(her:er=[]∨∃ k8 ov,er=[en "others" k8 ov]) (hD:c7 w P D) (hnum:0≤num∧num < 10 ^ 9) (ht:tkn < D.n) (hfl:∀ p∈fl,p∈tl0) (Q:Flow→Shared→Prop) (L:ag (KP w P) H hh (bg D it pp fl) (ed w D l fb gb T it pp io (en "pairs" k0 (.ref pp)::en "k" k1 kvl::en "sizes" k2 (.ref B.zl)::en "live" k5 (.ref B.vl)::er) fn sl (ak (.int (tkn:Int) k11)) num k4 k6 o92 o99 (dk #[]) t lv ps0 pn kw B++tl0) [])
  (hQ:∀ (h:Heap) (g:BG) (t':Nat) (k8:Tok) (fn':Nat) (ac ol:Addr) (co:Obj) (tq:Nat→Tok) (on:Nat),wt co→ag (KP w P) H h (bg D it pp fl) (ed w D l fb gb T it pp io [en "pairs" k0 (.ref pp),en "k" k1 kvl,en "sizes" k2 (.ref B.zl),en "live" k5 (.ref B.vl),en "others" k8 (.ref ol)] fn' sl (ak (.int (tkn:Int) k11)) num k4 k6 o92 o99 (dk #[.int 121 0,.int 36 0,.ref ac]) t lv ps0 pn kw B++([(ac,co),(ol,ab (ah (eK D l num tkn).length (λ j=>((eK D l num tkn).getD j 0:Int)) tq) on)]++tl0)) []→Q .next ⟨h,g,dr,t',os⟩):
  wpOwn (model pg w) (AQ (aQ D.N::el)) (ch D.N it) (execs xD (aQ D.N)) Q NE ⟨hh,gg,dr,tt,os⟩:=by
 obtain ⟨N,hN⟩:=bd hh
 obtain ⟨w,c,rfl⟩:=cB w
 refine wW [eI D.n,c0 (mo _ P D (tkn:Int) (gq tkn)) kA,c0 (jD _ P D.N D.m (cN D tkn) num (λ k=>-(l k:Int)) (oN D tkn)) ku,d5 (LX D l t) (tkn:Int) (.int (l tkn) (t tkn)),gK] (cY hD) (bp (by kernel_rfl)) L hN [.k,.k,ib,.e,.e,.e,.e,U,U,.e,U,.e,U,U,U,.e,U,.c 0 [0],U,.c 1 [2,1,0,10],aK,aK,U,U,U,.k,.k,aK,.k,ft,jv,jv,jv,.k,.k,.k,.c 2 [9,0,1,19,20,30,2004],iD,Fw,qd,qd,qd,.e,qd,.c 3 [22],ay,ay,ay,.e,ay,.c 4 [1,0],.e,dX,dX] λ ps=>?_
 refine bt rfl [15,16,17,18,19,20,21,22,23,24,25,26,27,28,29,30,31,32,33,34,4,0] 35 ((tl0++ec nF (aw (ps 1).as D.n))++[]) (λ W=>⟨.ok .next,ed W D l fb gb T it pp io [en "pairs" k0 (.ref pp),en "k" k1 kvl,en "sizes" k2 (.ref B.zl),en "live" k5 (.ref B.vl),en "others" (g7 er (ps 1).t) (.ref ((ps 4).as 0))] (g0 er fn) sl (ak (.int ((↑tkn:Int)) k11)) num k4 k6 o92 o99 (mP 121 36 ((ps 1).3+6)) t lv ps0 pn kw B++[((ps (nat_lit 1)).3+6,dS (.type "code") #[.str "<lambda>" ((ps 1).4+1),.str "_law_paired.<locals>.<lambda>" ((ps 1).4+2),.str "/claim/cut.py" ((ps 1).4+3),.int 121 0,.int 1 0,.int 0 0,.int 0 0,.int 19 0,.ref ((ps 1).3+1),.bool true,.int 181 0,.ref ((ps 1).3+2),.none,.ref ((ps 1).3+3),.ref ((ps 1).3+4),.ref ((ps 1).3+5),.int ((↑((ps 1).4+(0+1+1+1+1+1+1+1+1)):Int)) 0,.int 121 0,.str "/claim/cut.py" ((ps 1).4+9)]),((ps (nat_lit 4)).6 (nat_lit 0),ab (((List.map (λ i=>(cn (kU (gq tkn)) (aw (ps 1).as D.n)).toList.getD i .none) (cA (dW D.m num (λ k=>-(l k:Int)) (oN D tkn) (cN D tkn))).toList).toArray.toList.take (l tkn)).toArray) 0)],[(List.map (λ i=>(cn (kU (gq tkn)) (aw (ps 1).as D.n)).toList.getD i .none) (cA (dW D.m num (λ k=>-(l k:Int)) (oN D tkn) (cN D tkn))).toList).toArray.size≤1000∧0≤(l tkn:Int),iz (↑tkn:Int),(LX D l t)[(↑tkn:Int).toNat]?=some (Value.int (↑(l tkn):Int) (t tkn)),∃ t,cn (kU (gq tkn)) (aw (ps 1).as D.n)=ah (cN D tkn) (λ j=>(oN D tkn j:Int)) t,∃ t,ah D.n (λ k=>-(↑(l k):Int)) B.tu=ah (D.m+(1:Nat)) (λ k=>-(↑(l k):Int)) t,cN D tkn=(4:Nat)∨cN D tkn=(5:Nat),D.m≤(5:Nat),(0:Int)≤num∧num < (10:Int) ^ (9:Nat),∀ (j:Nat),j < cN D tkn→oN D tkn j < D.m+(1:Nat),(dW D.m num (λ k=>-(↑(l k):Int)) (oN D tkn) (cN D tkn)).Nodup,D.n≤(6:Nat),∀ (k:Nat),((↑k:Int)!=(↑tkn:Int))=gq tkn k,D.n < (1000:Nat)]⟩) rfl .next (by apply jq her c;kernel_rfl) rfl (by decide) (aR 14 rfl λ p hp=>aI _ (aI _ (hfl p hp))) ?_ λ h g t9 L'=>?_
 ·exact aa (zi hD.n56 ht) (aa (jI hD ht) (aa (aG ht) (aa (jE _ _ _) (aa ⟨_,rfl⟩ (aa (EF hD.n56 ht) (aa (m5 hD) (aa hnum (aa (λ j hj=>(ui hj).1) (aa gw (aa (n6 hD) (aa Db (aa (tG hD) ae))))))))))))
 obtain ⟨tu,eu⟩:=jE (gq tkn) (ps 1).as D.n
 rw [eu,bR,aX,aX] at L'
 obtain ⟨tq,eq⟩:=uX (z:=l tkn) (o:=oN D tkn) (t:=tu) (uA hD.n56 ht num λ k=>-(l k:Int))
 rw [eq] at L'
 exact hQ h g t9 _ _ _ _ _ tq _ (Gy rfl) L'
theorem Gm {D:PD}{l:Nat→Nat}{T it pp lv fn pn:Nat}{fl:aq}{el:List Env}{t:Nat→Tok}{o92 o99:Obj}{sl:iT}{k0 k1:Tok}{kvl:Value}{er:List (Str×Tok×Value)}{ps0:VA}{tkn:Nat}{ta:Nat}{av:Nat→Value}(her:er=[]∨∃ k8 ov,er=[en "others" k8 ov]) (hD:c7 w P D) (hnum:0≤num∧num < 10 ^ 9) (ht:tkn < D.n) (hfl:∀ p∈fl,p∈tl0) (Q:Flow→Shared→Prop) (L:ag (KP w P) H hh (bg D it pp fl) (ed w D l fb gb T it pp io (en "pairs" k0 (.ref pp)::en "k" k1 kvl::en "sizes" k2 (.ref B.zl)::en "live" k5 (.ref B.vl)::er) fn sl (ak (.int (tkn:Int) k11)) num k4 k6 o92 o99 (dk #[.int 121 0,.int 36 0,.ref ac]) t lv ps0 pn kw B++([(ac,kN av ta)]++tl0)) [])
  (hQ:∀ (h:Heap) (g:BG) (t':Nat) (k8:Tok) (fn':Nat) (ac ol:Addr) (co:Obj) (tq:Nat→Tok) (on:Nat),wt co→ag (KP w P) H h (bg D it pp fl) (ed w D l fb gb T it pp io [en "pairs" k0 (.ref pp),en "k" k1 kvl,en "sizes" k2 (.ref B.zl),en "live" k5 (.ref B.vl),en "others" k8 (.ref ol)] fn' sl (ak (.int (tkn:Int) k11)) num k4 k6 o92 o99 (dk #[.int 121 0,.int 36 0,.ref ac]) t lv ps0 pn kw B++([(ac,co),(ol,ab (ah (eK D l num tkn).length (λ j=>((eK D l num tkn).getD j 0:Int)) tq) on)]++tl0)) []→Q .next ⟨h,g,dr,t',os⟩):
  wpOwn (model pg w) (AQ (aQ D.N::el)) (ch D.N it) (execs xD (aQ D.N)) Q NE ⟨hh,gg,dr,tt,os⟩:=by
 obtain ⟨N,hN⟩:=bd hh
 obtain ⟨w,c,rfl⟩:=cB w
 refine wW [eI D.n,c0 (mo _ P D (tkn:Int) (gq tkn)) kA,c0 (jD _ P D.N D.m (cN D tkn) num (λ k=>-(l k:Int)) (oN D tkn)) ku,d5 (LX D l t) (tkn:Int) (.int (l tkn) (t tkn)),gK] (cY hD) (bp (by kernel_rfl)) L hN [.k,.k,ib,.e,.e,.e,.e,U,U,.e,U,.e,U,U,U,.e,U,.c 0 [0],U,.c 1 [2,1,0,10],aK,aK,U,U,U,.k,.k,aK,.k,ft,.k,.k,.k,.c 2 [3,0,26,13,14,24,2004],iD,ix,mf,mf,mf,.e,mf,.c 3 [16],ay,ay,ay,.e,ay,.c 4 [1,0],.e,ow,ow] λ ps=>?_
 refine bt rfl [9,10,11,12,13,14,15,16,17,18,19,20,21,22,23,24,25,26,27,28,29,0] 30 ((tl0++ec nF (aw (ps 1).as D.n))++[]) (λ W=>⟨.ok .next,ed W D l fb gb T it pp io [en "pairs" k0 (.ref pp),en "k" k1 kvl,en "sizes" k2 (.ref B.zl),en "live" k5 (.ref B.vl),en "others" (g7 er (ps 1).t) (.ref ((ps 4).as 0))] (g0 er fn) sl (ak (.int ((↑tkn:Int)) k11)) num k4 k6 o92 o99 (mP 121 36 ac) t lv ps0 pn kw B++[(ac,kN av ta),((ps (nat_lit 4)).6 (nat_lit 0),ab (((List.map (λ i=>(cn (kU (gq tkn)) (aw (ps 1).as D.n)).toList.getD i .none) (cA (dW D.m num (λ k=>-(l k:Int)) (oN D tkn) (cN D tkn))).toList).toArray.toList.take (l tkn)).toArray) 0)],[(List.map (λ i=>(cn (kU (gq tkn)) (aw (ps 1).as D.n)).toList.getD i .none) (cA (dW D.m num (λ k=>-(l k:Int)) (oN D tkn) (cN D tkn))).toList).toArray.size≤1000∧0≤(l tkn:Int),iz (↑tkn:Int),(LX D l t)[(↑tkn:Int).toNat]?=some (Value.int (↑(l tkn):Int) (t tkn)),∃ t,cn (kU (gq tkn)) (aw (ps 1).as D.n)=ah (cN D tkn) (λ j=>(oN D tkn j:Int)) t,∃ t,ah D.n (λ k=>-(↑(l k):Int)) B.tu=ah (D.m+(1:Nat)) (λ k=>-(↑(l k):Int)) t,cN D tkn=(4:Nat)∨cN D tkn=(5:Nat),D.m≤(5:Nat),(0:Int)≤num∧num < (10:Int) ^ (9:Nat),∀ (j:Nat),j < cN D tkn→oN D tkn j < D.m+(1:Nat),(dW D.m num (λ k=>-(↑(l k):Int)) (oN D tkn) (cN D tkn)).Nodup,D.n≤(6:Nat),∀ (k:Nat),((↑k:Int)!=(↑tkn:Int))=gq tkn k,D.n < (1000:Nat)]⟩) rfl .next (by apply jq her c;kernel_rfl) rfl (by decide) (aR 14 rfl λ p hp=>aI _ (aI _ (hfl p hp))) ?_ λ h g t9 L'=>?_
 ·exact aa (zi hD.n56 ht) (aa (jI hD ht) (aa (aG ht) (aa (jE _ _ _) (aa ⟨_,rfl⟩ (aa (EF hD.n56 ht) (aa (m5 hD) (aa hnum (aa (λ j hj=>(ui hj).1) (aa gw (aa (n6 hD) (aa Db (aa (tG hD) ae))))))))))))
 obtain ⟨tu,eu⟩:=jE (gq tkn) (ps 1).as D.n
 rw [eu,bR,aX,aX] at L'
 obtain ⟨tq,eq⟩:=uX (z:=l tkn) (o:=oN D tkn) (t:=tu) (uA hD.n56 ht num λ k=>-(l k:Int))
 rw [eq] at L'
 exact hQ h g t9 _ _ _ _ _ tq _ ⟨_,_,rfl⟩ L'
end
section
variable {w:World}{P:KF}{H:Heap}{A:Around}
noncomputable def Ff:List Stmt:=((bA i7).drop 16).take 2
noncomputable abbrev gm (w:World) (D:PD) (l:Nat→Nat) (T tkn:Nat) (it pp:Addr) (io:Obj) (es:List (Str×Tok×Value)) (fn:Nat) (sl:iT) (v9 v10 v13 v14:Option Value) (k4 k11:Tok) (o92 o99 o151:Obj) (t:Nat→Tok) (lv:Nat) (ps0:VA) (pn:Nat) (kl kn:Nat) (kw:Nat→Addr):aq:=
 [(D.N,aV w es fn sl),(it,io),(D.N+7,ak (.int (T:Int) k4)),(D.N+8,ak (.ref kl)),(D.N+9,aF v9),(D.N+10,aF v10),(D.N+11,ak (.int (tkn:Int) k11)),(D.N+13,aF v13),(D.N+14,aF v14),(D.lf,ab (LX D l t) lv),(92,o92),(99,o99),(151,o151),(pp,ab ps0 pn),(kl,ab (bk D.n kw) kn)]
theorem yd {D:PD}{k:Nat}(h:k < D.n):D.nA[k]?=some (.int (D.na k) (D.nt k)):=aG h
theorem D1 {k:Nat}:bx (xs.toList.drop k).toArray (xs.toList.drop (k:Int).toNat).toArray true:=.of_eq (by simp)
theorem zX {D:PD}{k:Nat}{l t:Nat→Nat}(hD:c7 w P D) (h:k < D.n):(0:Int)≤(k:Int)∧(k:Int) < (LX D l t).size∧(LX D l t).size≤1000:=by
 have e:(LX D l t).size=D.n:=au
 rw [e]
 have:=n6 hD
 lia
theorem zV {D:PD}{k:Nat}{l:Nat→Nat}(hD:c7 w P D) (h:k < D.n) (hl:l k≤D.d k):(D.pts l k).size≤1000:=(k9 hD h).1
theorem Be {D:PD}{k x:Nat}{l:Nat→Nat}(hD:c7 w P D) (h:k < D.n) (hl:l k≤D.d k):(D.pts l k).size≤1000∧0≤(x:Int):=⟨(k9 hD h).1,Int.natCast_nonneg _⟩
theorem Ef {D:PD}{k:Nat}{l:Nat→Nat}(hD:c7 w P D) (h:k < D.n) (hl:l k≤D.d k):D.na k≤(D.pts l k).size:=by
 rw [eZ hD h hl];lia
theorem ya {F:List Addr}{a b:Addr×Obj}{own tl fl:aq}(n:Nat) (hF:F=(own.take n).map (·.1)++cb fl) (h:∀ p∈fl,p∈tl):∀ x∈F,x∈((a::b::own)++tl).map (·.1):=λ x hx=>gY _ (gY _ (aR n hF h x hx))
theorem IB {D:PD}{l:Nat→Nat}{T tkn it pp lv fn pn pd dn:Nat}{fl:aq}{el:List Env}{t:Nat→Tok}{o92 o99 o151:Obj}{es:List (Str×Tok×Value)}{v9 v10 v13 v14:Option Value}{sl:iT}{ps0:VA}(hD:c7 w P D) (ht:tkn < D.n) (hkw:KP w P (kw tkn)=some (ab (D.pts l tkn) (kv tkn))) (hl:l tkn≤D.d tkn) (hfl:∀ p∈fl,p∈tl0) (Q:Flow→Shared→Prop) (L:ag (KP w P) H hh (bg D it pp fl) ((D.pt tkn,ax pd (D.pts l tkn) pv)::(pd,d8 hs tk0 0 tk1 dn)::(gm w D l T tkn it pp io es fn sl v9 v10 v13 v14 k4 k11 o92 o99 o151 t lv ps0 pn kl kn kw++tl0)) [])
  (hQ:∀ (h:Heap) (g:BG) (t' pv' lv':Nat) (u:Tok),ag (KP w P) H h (bg D it pp fl) ((D.pt tkn,ax pd (D.pts (cg l tkn 0) tkn) pv')::(pd,d8 hs tk0 0 tk1 dn)::(gm w D (cg l tkn 0) T tkn it pp io es fn sl v9 v10 v13 v14 k4 k11 o92 o99 o151 (cg t tkn u) lv' ps0 pn kl kn kw++tl0)) []→Q .next ⟨h,g,dr,t',os⟩):
  wpOwn (model pg w) (AQ (aQ D.N::el)) (ch D.N it) (execs Ff (aQ D.N)) Q NE ⟨hh,gg,dr,tt,os⟩:=by
 obtain ⟨N,hN⟩:=bd hh
 have hpf:∀ p∈(D.nl,ab D.nA D.nlv)::(kw tkn,ab (D.pts l tkn) (kv tkn))::Gj D,KP w P p.1=some p.2:=f0.mpr ⟨hD.nl,f0.mpr ⟨hkw,cY hD⟩⟩
 obtain ⟨w,c,rfl⟩:=cB w
 refine wW [d5 (bk D.n D.pt) (tkn:Int) (.ref (D.pt tkn)),d5 D.nA (tkn:Int) (.int (D.na tkn) (D.nt tkn)),c0 (nh (D.na tkn)) nZ,d5 (bk D.n kw) (tkn:Int) (.ref (kw tkn)),gK,y3 true,GB] hpf (bp (by kernel_rfl)) L hN [ib,mW,kY,kY,kY,.e,kY,.c 0 [2007],U,.k,.k,.k,U,.k,.k,.k,U,.k,.k,.k,.k,U,ay,iD,mW,aL,aL,aL,.e,aL,.c 1 [2000],.k,.c 2 [0,1],dR,ow,ft,ft,ft,.e,ft,.c 3 [17],iD,ow,aL,aL,aL,.e,aL,.c 1 [2000],bY,bY,bY,.e,bY,.c 4 [2001,0],.e,aj,U,aj,.e,aj,.c 5 [2,0],gF,jP,ig,ig,.e,ig,.c 6 [14]] λ ps=>?_
 refine bt rfl [3,4,5,6,7,8,9,10,11,12,13,14,15,16,17,18,19] 20 (tl0++[]) (λ W=>⟨.ok .next,[(D.14 tkn,ax pd ((List.take (D.na tkn) (D.pts l tkn).toList).toArray) ((ps 2).6 1)),(pd,d8 hs tk0 0 tk1 dn),(D.1,aV W es fn sl),(it,io),(D.1+7,ak (.int ((↑T:Int)) k4)),(D.1+8,ak (.ref kl)),(D.1+9,aF v9),(D.1+10,aF v10),(D.1+11,ak (.int ((↑tkn:Int)) k11)),(D.1+13,aF v13),(D.1+14,aF v14),(D.5,ab ((LX D l t).setIfInBounds tkn (.int ((0:Nat):Int) (ps 6).t)) ((ps 7).as 0)),(92,o92),(99,o99),(151,o151),(pp,ab ps0 pn),(kl,ab (bk D.n kw) kn)],[(0:Int)≤(↑tkn:Int)∧(↑tkn:Int) < (↑(LX D l t).size:Int)∧(LX D l t).size≤(1000:Nat),bx (List.drop (D.na tkn) (D.pts l tkn).toList).toArray (List.drop (↑(D.na tkn):Int).toNat (D.pts l tkn).toList).toArray true,(D.pts l tkn).size≤(1000:Nat)∧(0:Int)≤(↑(D.na tkn):Int),iz (↑tkn:Int),D.nA[(↑tkn:Int).toNat]?=some (Value.int (↑(D.na tkn):Int) (D.nt tkn)),iz (↑tkn:Int),(bk D.n kw)[(↑tkn:Int).toNat]?=some (Value.ref (kw tkn)),(D.pts l tkn).size≤(1000:Nat),D.na tkn≤(D.pts l tkn).size,iz (↑tkn:Int),D.nA[(↑tkn:Int).toNat]?=some (Value.int (↑(D.na tkn):Int) (D.nt tkn)),iz (↑tkn:Int),(bk D.n D.pt)[(↑tkn:Int).toNat]?=some (Value.ref (D.pt tkn))]⟩) rfl .next (by apply bq c;kernel_rfl) rfl (by decide) (ya 14 rfl λ p hp=>aI _ (hfl p hp)) ?_ λ h g t9 L'=>?_
 ·exact aa (zX hD ht) (aa (D1) (aa (Be hD ht hl) (aa (jI hD ht) (aa (yd ht) (aa (jI hD ht) (aa (bK ht) (aa (zV hD ht hl) (aa (Ef hD ht hl) (aa (jI hD ht) (aa (yd ht) (aa (jI hD ht) (aa (bK ht) (ae)))))))))))))
 rw [aX,xq,qx] at L'
 exact hQ h g t9 _ _ _ L'
end
section
variable {w:World}{P:KF}{H:Heap}{A:Around}
noncomputable def Fp:PySem.Expr→PySem.Expr
 |.Call _ (a::_) _ _=>a
 |_=>default
noncomputable def gZ:PySem.Expr:=Fp (eh (fe (fB (st 12)) 0))
noncomputable abbrev Ix (pc:Nat→Str×Str) (i:Nat) (js:List (Str×Tok×Value)):Prop:=(i=0∧js=[])∨(i≠0∧∃ t1 u1 t2 u2,js=[en "white" t1 (.str (pc (i - 1)).1 u1),en "part" t2 (.str (pc (i - 1)).2 u2)])
noncomputable abbrev Dm (pc:Nat→Str×Str):kM:=ca λ i q=>.str (Builtin.Str.glued "" [(pc i).1,(pc i).2]) q.1
theorem vD {pc:Nat→Str×Str}{ls lv it fr i fn:Nat}{v:Value}{js:List (Str×Tok×Value)}(hp:aZ w P xs pc) (hps:∀ i,i < xs.size→(pc i).1.length+(pc i).2.length≤1000) (hk:KP w P ls=some (ab xs lv)) (hv:xs[i]?=some v) (hy:ys.size≤i) (hj:js=[]∨∃ t1 v1 t2 v2,js=[en "white" t1 v1,en "part" t2 v2])
  (L:ag (KP w P) H hh [it,acc,gf] [(it,cr ls i),(acc,ab ys an),(gf,aJ w js fn)] old)
  (k:∀ h' (g':BG) t' q an' fn' t1 u1 t2 u2,ag (KP w P) H h' [it,acc,gf] [(it,cr ls (i+1:Nat)),(acc,ab (Dm pc i q ys) an'),(gf,aJ w [en "white" t1 (.str (pc i).1 u1),en "part" t2 (.str (pc i).2 u2)] fn')] old→
   codeAny (model pg w) AI (.compLoop gZ 0 (.ref it) (.ref acc) (hV gZ gf [] "_law_shows.<locals>." 148 fr)) R ⟨h',g',dr,t',os⟩):
  codeAny (model pg w) AI (.compLoop gZ 0 (.ref it) (.ref acc) (hV gZ gf [] "_law_shows.<locals>." 148 fr)) R ⟨hh,gg,dr,tt,os⟩:=by
 have hi:=(Array.getElem?_eq_some_iff.mp hv).1
 obtain ⟨_,_,u,tf,tq,e1,e2⟩:=hp.2 i hi
 rw [e1] at hv
 obtain rfl:=bo hv
 have hs:=hps i hi
 have h1:=hp.1
 generalize hpc:pc i=pq at *
 obtain ⟨p,q⟩:=pq
 have ke:∀ q',Dm pc i q' ys=ys.push (.str (Builtin.Str.glued "" [p,q]) q'.1):=λ q'=>by
  show ys.push (Value.str (Builtin.Str.glued "" [(pc i).1,(pc i).2]) q'.1)=_
  rw [hpc]
 simp only [ke] at k
 obtain ⟨N,hN⟩:=bd hh
 have hpf:∀ p'∈([(ls,ab xs lv),(u,aU #[.str p tf,.str q tq] 0)]:aq),KP w P p'.1=some p'.2:=by
  simp only [f0]
  exact ⟨hk,e2,λ _ h=>nomatch h⟩
 obtain ⟨w,c,rfl⟩:=cB w
 refine dv [dl xs i (.ref u),aN,GH] hpf [U,.e,U,.c 0 [0,2000],U,bY,bY,bY,.e,bY,.e,U,U,.e,U,.e,U,U,bY,U,U,U,.e,U,.e,U,U,bY,U,U,U,.e,U,.e,U,U,bY,U,U,U,fv,fv,fv,fv,fv,fv,.e,.c 2 [],.e,aK,.c 1 [4],.s] L hN λ ps=>?_
 refine aC AI [3,4,5] 6 [] (λ W=>⟨.compLoop gZ 0 (.ref it) (.ref acc) (hV gZ gf [] "_law_shows.<locals>." 148 fr),true,none,[(it,i4 ls (i+1)),(acc,ab (ys.push (.str (Builtin.Str.glued "" [p,q]) ((ps 1).as 0))) ((ps 2).as 0)),(gf,aJ w [("white",g7 js (ps 0).4,.str p tf),("part",g7 js.tail ((ps 0).4+1),.str q tq)] (g0 js (g0 js fn)))],[ys.size≤(1000:Nat),p.length+q.length≤(1000:Nat),xs[i]?=some (Value.ref u)]⟩) rfl (by apply IE hj c;kernel_rfl) (by decide) rfl rfl rfl rfl rfl ?_ λ h' g' t' L'=>?_
 ·repeat' first|exact ae|refine aa ?_ ?_
  all_goals first|lia|exact hv|exact hs
 exact k h' g' t' (_,0,0) _ _ _ _ _ _ L'
theorem zU:gZ=iU gZ:=by kernel_rfl
theorem vT {pc:Nat→Str×Str}{ls lv it fr fn:Nat}(hp:aZ w P xs pc) (hps:∀ i,i < xs.size→(pc i).1.length+(pc i).2.length≤1000) (hk:KP w P ls=some (ab xs lv))
  (L:ag (KP w P) hh hh [it,acc,gf] [(it,cr ls ((0:Nat):Int)),(acc,ab #[] an),(gf,aJ w [] fn)] old)
  (hR:∀ h' (g':BG) t' qs an' js fn',qs.length=xs.size→Ix pc xs.size js→ag (KP w P) hh h' [it,acc,gf] [(it,jW xs.size),(acc,ab (cn (Dm pc) qs) an'),(gf,aJ w js fn')] old→R (.ok .next) ⟨h',g',dr,t',os⟩):
  codeAny (model pg w) AI (.compStart gZ 0 (.ref it) (.ref acc) (hV gZ gf [] "_law_shows.<locals>." 148 fr)) R ⟨hh,gg,dr,tt,os⟩:=by
 refine rf (j3 (by decide) (by decide)) (o:=ab xs lv) (Ix pc) (Dm pc) (λ i q ys=>by simp) zU (.inr hk) (.inl ⟨rfl,rfl⟩) L ?_ λ h' g' t' qs an fn js h1 h2 L'=>hR _ _ _ _ _ _ _ h1 h2 L'
 intro i v hv ys an fn js h g t hy hj L' k
 refine vD hp hps hk hv hy ?_ L' λ h' g' t' q an' fn' t1 u1 t2 u2 L2=>?_
 ·rcases hj with ⟨_,h⟩|⟨_,t1,u1,t2,u2,h⟩
  ·exact .inl h
  ·exact .inr ⟨_,_,_,_,h⟩
 exact k h' g' t' q an' fn' _ (.inr ⟨by lia,t1,u1,t2,u2,rfl⟩) L2
noncomputable def HI (pc:Nat→Str×Str) (n a b c d:Nat):List (Str×Tok×Value):=match n with
 |0=>[]
 |k+1=>[en "white" a (.str (pc k).1 b),en "part" c (.str (pc k).2 d)]
noncomputable def uy (w:World) (P:KF) (ls:Addr) (xs:VA) (pc:Nat→Str×Str) (sz:Nat):Sp:=⟨700,2600,false,
 λ c fd=>ew (xC c) [(0,λ _=>nQ c),(0,λ _=>j5 c),(0,λ _=>(iK c).locals)] fd,
 λ c fd=>⟨.compStart gZ 0 (.ref (aT fd 0)) (.ref (aT fd 1)) (hV gZ (aT fd 2) [] "_law_shows.<locals>." 148 (F4 c)),
  [(aT fd 0,cr ls ((0:Nat):Int)),(aT fd 1,ab #[] (ao (az fd 1))),(aT fd 2,aJ w [] (mM (az fd 2)))],[],[],
  λ _=>.ok .next,
  λ z=>[jW sz,ab (cn (Dm pc) (aw z sz)) (z 0),aJ w (HI pc sz (z 1) (z 2) (z 3) (z 4)) (z 5)],
  λ _=>[],λ _=>[],[aZ w P xs pc,∀ i,i < xs.size→(pc i).1.length+(pc i).2.length≤1000,∃ lv,KP w P ls=some (ab xs lv),xs.size=sz]⟩⟩
theorem se {w:World}{P:KF}{ls:Addr}{pc:Nat→Str×Str}{sz:Nat}:bO w (KP w P) (uy w P ls xs pc sz):=by
 rintro c fd r rfl hc ho
 refine ⟨λ _=>rfl,λ h g d t os R L hp x=>?_⟩
 have h0:aZ w P xs pc:=ho _ (.head _)
 have h1:∀ i,i < xs.size→(pc i).1.length+(pc i).2.length≤1000:=ho _ bU
 obtain ⟨lv,h2⟩:∃ lv,KP w P ls=some (ab xs lv):=ho _ fG
 have h3:xs.size=sz:=ho _ jX
 refine vT h0 h1 h2 L λ h' g' t' qs an' js fn' hq hj L'=>?_
 rw [h3] at hq hj L'
 obtain ⟨a,b,c',d',rfl⟩:∃ a b c d,js=HI pc sz a b c d:=by
  rcases hj with ⟨h,e⟩|⟨h,t1,u1,t2,u2,e⟩
  ·rw [h];exact ⟨0,0,0,0,e⟩
  ·induction sz with
   |zero=>exact absurd rfl h
   |succ n=>exact ⟨t1,u1,t2,u2,e⟩
 subst hq
 obtain ⟨z,hz,hz'⟩:=il qs (λ k=>match k with|0=>an'|1=>a|2=>b|3=>c'|4=>d'|_=>fn')
 refine x z h' g' t' (λ e=>by cases e) ?_
 show ag _ _ _ _ [(_,_),(_,ab (cn (Dm pc) (aw z qs.length)) (z 0)),(_,aJ w (HI pc qs.length (z 1) (z 2) (z 3) (z 4)) (z 5))] _
 rw [hz,hz' 0 (by omega),hz' 1 (by omega),hz' 2 (by omega),hz' 3 (by omega),hz' 4 (by omega),hz' 5 (by omega)]
 exact L'
end
section
variable {w:World}{P:KF}{H:Heap}{A:Around}
noncomputable def C9 (w:World) (P:KF) (pc:Nat→Str×Str) (tot:Nat) (txt:Str) (B:Bool):Sp:=⟨640,2200,false,
 λ c fd=>ew (fI c 119) [(0,λ _=>92),(0,λ _=>99),(1,λ _=>mB c 0),(1,λ fd=>jS (az fd 2))] fd,
 λ c fd=>⟨.call (.ref 119) ⟨[.ref (aT fd 2)],[]⟩,[(92,az fd 0),(99,az fd 1)],[(aT fd 2,ax (aT fd 3) (ad (az fd 2)) (ao (az fd 2))),(aT fd 3,Dp (az fd 3) 0)],[],
  λ z=>.ok (.ret (.bool B)),λ z=>[iV (z 0),dz 64 32 (z 1) (z 2)],λ _=>[],λ _=>[],[al 61 19 (az fd 0),al 64 32 (az fd 1),aZ w P (ad (az fd 2)) pc,JoinOk "" (jn pc (ad (az fd 2)).size)=true,bM (bL pc) (ad (az fd 2)).size=tot,tot < 6,fk pc (ad (az fd 2)).size=txt,(Nat.beq tot 0||fO txt)=B]⟩⟩
theorem w6 {w:World}{P:KF}{pc:Nat→Str×Str}{tot:Nat}{B:Bool}:bO w (KP w P) (C9 w P pc tot txt B):=by
 rintro c fd r rfl hc ho
 refine ⟨λ _=>rfl,λ h g d t os R L hp x=>?_⟩
 have h0:al 61 19 (az fd 0):=ho _ (.head _)
 have h1:al 64 32 (az fd 1):=ho _ bU
 have h2:aZ w P (ad (az fd 2)) pc:=ho _ fG
 have h3:JoinOk "" (jn pc (ad (az fd 2)).size)=true:=ho _ jX
 have h4:bM (bL pc) (ad (az fd 2)).size=tot:=ho _ Ae
 have h5:tot < 6:=ho _ Gk
 have h6:fk pc (ad (az fd 2)).size=txt:=ho _ F9
 have h7:(Nat.beq tot 0||fO txt)=B:=ho _ IS
 subst h7
 refine xP h0 h1 h2 h3 h4 h5 h6 (fO txt) rfl R L λ h' g' t' ac o9 ho9 L'=>?_
 obtain ⟨k,a,rfl⟩:=li ho9
 exact x (λ i=>match i with|0=>ac|1=>k|_=>a) h' _ t' (λ e=>by cases e) L'
theorem wO (z:Nat→Nat) (n:Nat):(aw z n).length=n:=by simp [aw]
theorem wd {pc:Nat→Str×Str}{n:Nat}(qs:List Q3) (h:qs.length=n):∃ l:List (Str×Tok),cn (Dm pc) qs=(strValues l).toArray∧l.map (·.1)=jn pc n:=by
 refine ⟨qs.mapIdx λ i q=>(Builtin.Str.glued "" [(pc i).1,(pc i).2],q.1),?_,?_⟩
 ·rw [nK]
  unfold strValues
  congr 1
  apply du
  ·simp
  ·intro i h1 h2;simp
 ·unfold jn
  apply du
  ·simp [h]
  ·intro i h1 h2;simp
structure kP (n:Nat) (pc:Nat→Str×Str) (tot:Nat):Prop where
 sm:∀ i,i < n→(pc i).1.length+(pc i).2.length≤1000
 fit:JoinOk "" (jn pc n)=true
 tl:(fk pc n).length=tot
 ol:(d4 (fk pc n)).length≤1000
 ob:((d4 (fk pc n)).cps.toList==("":Str).cps.toList)=(Nat.beq tot 0||fO (fk pc n))
theorem v5 {pt pd ls lv tk0 tk1 dn:Nat}{pc:Nat→Str×Str}{o92 o99:Obj}{tot:Nat}{out:Str}{B:Bool}(hpc:aZ w P xs pc) (hsm:∀ i,i < xs.size→(pc i).1.length+(pc i).2.length≤1000) (hls:KP w P ls=some (ab xs lv)) (h92:al 61 19 o92) (h99:al 64 32 o99) (hf:JoinOk "" (jn pc xs.size)=true) (ht:bM (bL pc) xs.size=tot) (h6:tot < 6) (hx:fk pc xs.size=txt)
  (hB:(Nat.beq tot 0||fO txt)=B) (htl:txt.length=tot) (ho:d4 txt=out) (hol:out.length≤1000) (hob:(out.cps.toList==("":Str).cps.toList)=B) (R:RP)
  (L:ag (KP w P) hh hh [92,99] [(92,o92),(99,o99)] [(pt,ax pd xs pv),(pd,d8 hs tk0 0 tk1 dn)])
  (hR:∀ h' (g':BG) t' ac k a,ag (KP w P) hh h' [92,99] [(92,iV ac),(99,dz 64 32 k a)] [(pt,ax pd xs pv),(pd,d8 hs tk0 0 tk1 dn)]→R (.ok (.ret (.bool true))) ⟨h',g',dr,t',os⟩):
  codeAny (model pg w) AR (.call (.ref 149) ⟨[.ref pt,.ref ls],[]⟩) R ⟨hh,gg,dr,tt,os⟩:=by
 obtain ⟨N,hN⟩:=bd hh
 have hpf:∀ p'∈([(ls,ab xs lv)]:aq),KP w P p'.1=some p'.2:=by
  simp only [f0]
  exact ⟨hls,λ _ h=>nomatch h⟩
 obtain ⟨w,c,rfl⟩:=cB w
 have hls':=(⟨lv,hpf _ (.head _)⟩:∃ lv,KP _ P ls=some (ab xs lv))
 have hne:((tot:Int)!=(txt.length:Int))=false:=by rw [htl];exact bne_self_eq_false _
 have htl':txt.length≤1000:=by lia
 obtain ⟨z,hsz⟩:=G3 xs.size
 replace hsz:=hsz.symm
 refine dv [c0 (uy _ P ls xs pc z) se,DD (jn pc xs.size) txt,c0 (uh _ P pc txt) mm,EZ txt txt false,c0 (xB _ P pc tot) wL,xe tot txt.length false,c0 yz u9,CT,xe xs.size xs.size false,c0 (C9 _ P pc tot txt B) w6,DZ txt out,EC out "" B] hpf ([.k,U,U,U,U,.e,U,aL,aL,.e,aL,.e,U,.c 0 [2,1,0],U,U]++((match (generalizing:=false) z with|0=>[]|_=>[U,U,U,U])++[.c 1 [1],cS,cS,.k,.k,cS,.e,.e,.e,.c 2 [5,1000,1001],.e,.e,cS,.e,.c 3 [],.k,.k,cS,.c 4 [4,1000,1001],.k,.k,cS,.n 0,.e,.c 5 [],cS,aD,.k,.k,.k,aD,.k,.k,.k,aD,.k,.k,.k,.k,aD,bJ,.k,.c 6 [1000],.k,.k,cS,.c 7 [2000],.e,.c 8 [],cS,aD,.k,.k,.k,aD,.k,.k,.k,aD,.k,.k,.k,.k,aD,bJ,.k,.c 9 [4,5,1000,1001],cS,.e,.c 10 [],.e,.c 11 []])) L hN λ ps=>?_
 refine ba [4,5] 6 [] (λ W=>⟨.ok (.ret (.bool true)),[(92,mP 61 19 ((ps 9).6 0)),(99,dz 64 32 ((ps 9).as 1) ((ps 9).as 2))],[(out.cps.toList==(Str.ofString "").cps.toList)=B,d4 txt=out,out.length≤(1000:Nat),al (61:Int) (19:Int) { cls:=Value.none,data:=Data.fields #[Value.int (61:Int) (0:Tok),Value.int (19:Int) (0:Tok),Value.ref ((ps 4).as (0:Nat))] },al (64:Int) (32:Int) { cls:=Value.none,data:=Data.fields #[Value.int (64:Int) (0:Tok),Value.int (32:Int) (0:Tok),Value.ref ((ps 2).as (1:Nat))] },aZ W P xs pc,JoinOk (Str.ofString "") (jn pc xs.size)=true,bM (bL pc) xs.size=tot,tot < (6:Nat),fk pc xs.size=txt,(tot.beq (0:Nat)||fO txt)=B,((↑xs.size:Int)!=(↑xs.size:Int))=false,xs.size≤(1000:Nat),((↑tot:Int)!=(↑txt.length:Int))=false,txt.length≤(1000:Nat),al (61:Int) (19:Int) o92,aZ W P xs pc,bM (bL pc) xs.size=tot,tot < (6:Nat),(txt.cps.toList !=txt.cps.toList)=false,al (64:Int) (32:Int) o99,aZ W P xs pc,JoinOk (Str.ofString "") (jn pc xs.size)=true,fk pc xs.size=txt,Builtin.Str.glued (Str.ofString "") (jn pc xs.size)=txt,∃ l,cn (Dm pc) (aw (ps (0:Nat)).as z)=(strValues l).toArray∧List.map (λ x=>x.fst) l=jn pc xs.size,JoinOk (Str.ofString "") (jn pc xs.size)=true,aZ W P xs pc,∀ (i:Nat),i < xs.size→(pc i).fst.length+(pc i).snd.length≤(1000:Nat),∃ lv,KP W P ls=some (ab xs lv),xs.size=z]⟩) rfl (by apply IO z B c;kernel_rfl) (by decide) (λ a ha=>ha) ?_ λ h3 g3 t3 L3=>?_
 ·repeat' first|exact ae|refine aa ?_ ?_
  all_goals first|exact h92|exact h99|exact hf|exact ht|exact h6|exact hx|exact hB|exact hpc|exact hls'|exact hsm|exact ho|exact hol|exact hob|exact hsz|exact hpc.1|exact jA _|exact .inr ⟨_,rfl⟩|exact bne_self_eq_false _|exact hne|exact htl'|exact hsz▸wd _ (wO _ _)
 exact hR h3 g3 t3 _ _ _ L3
noncomputable def p7 (w:World) (P:KF) (pt ls:Addr) (xs:VA) (pc:Nat→Str×Str) (tot:Nat):Sp:=⟨620,2100,false,
 λ c fd=>ew (fI c 149) [(0,λ _=>92),(0,λ _=>99)] fd,
 λ c fd=>⟨.call (.ref 149) ⟨[.ref pt,.ref ls],[]⟩,[(92,az fd 0),(99,az fd 1)],[],[],
  λ z=>.ok (.ret (.bool true)),λ z=>[iV (z 0),dz 64 32 (z 1) (z 2)],λ _=>[],λ _=>[],[al 61 19 (az fd 0),al 64 32 (az fd 1),hZ w P pt xs pc,∃ lv,KP w P ls=some (ab xs lv),kP xs.size pc tot,bM (bL pc) xs.size=tot,tot < 6]⟩⟩
theorem qJ {w:World}{P:KF}{pt ls:Addr}{pc:Nat→Str×Str}{tot:Nat}:bO w (KP w P) (p7 w P pt ls xs pc tot):=by
 rintro c fd r rfl hc ho
 refine ⟨λ _=>rfl,λ h g d t os R L hp x=>?_⟩
 have h0:al 61 19 (az fd 0):=ho _ (.head _)
 have h1:al 64 32 (az fd 1):=ho _ bU
 have h2:hZ w P pt xs pc:=ho _ fG
 obtain ⟨lv,h3⟩:∃ lv,KP w P ls=some (ab xs lv):=ho _ jX
 have h4:kP xs.size pc tot:=ho _ Ae
 have h5:bM (bL pc) xs.size=tot:=ho _ Gk
 have h6:tot < 6:=ho _ F9
 obtain ⟨P0,pd,v,hs,tk0,tk1,dn,rfl,hne,k1,k2,hpc,keep⟩:=h2.out
 have e1:KP w (bN P0 [(pt,ax pd xs v),(pd,d8 hs tk0 0 tk1 dn)]) pt=some (ax pd xs v):=by rw [bP (eJ k1),dC (Am hne) (o:=ax pd xs v) (.head _)]
 have e2:KP w (bN P0 [(pt,ax pd xs v),(pd,d8 hs tk0 0 tk1 dn)]) pd=some (d8 hs tk0 0 tk1 dn):=by rw [bP (eJ k2),dC (Am hne) (o:=d8 hs tk0 0 tk1 dn) bU]
 have hls:=keep ls _ h3 (λ e=>by rw [e,e1] at h3;cases h3) (λ e=>by rw [e,e2] at h3;exact absurd (congrArg Obj.cls (bo h3)) (by show ¬ (Value.type "dict"=Value.type "list");decide))
 refine v5 hpc h4.sm hls h0 h1 h4.fit h5 h6 rfl rfl h4.tl rfl h4.ol h4.ob R (L.outP (Am hne) (wr k1 k2)) λ h' g' t' ac k a L'=>?_
 exact x (λ i=>match i with|0=>ac|1=>k|_=>a) h' _ t' (λ e=>by cases e) L'.intoP
end
variable {tot ol:Nat}
section
variable {w:World}{P:KF}{H:Heap}{A:Around}
noncomputable def pA:PySem.Expr:=eh (fe (match iN 15 with|.If _ b _ _=>b|_=>[]) 0)
theorem vO {D:PD}{l:Nat→Nat}{klv:Nat}{kw:Nat→Addr}{it:Nat}(hD:c7 w P D) (hP:kQ w P D l) (hn:D.n≤6) (hkw:∀ k,k < D.n→KP w P (kw k)=some (ab (D.pts l k) (kv k))) (hS:∀ k,k < D.n→kP (D.pts l k).size (D.pc k) (l k)):jV w P AY pA "k" D.n it acc gf (fR pA gf [("points",D.N+5),("kept",D.N+8)] D.N) [it,acc,gf,92,99] [(D.N+8,ak (.ref kl)),(kl,ab (bk D.n kw) klv)] GR (kU λ _=>false) nF:=by
 intro H R dr os i hi ys ex nw an fn js h g tt hx hy hj L k
 obtain ⟨o92,o99,rfl,ho92,ho99⟩:=hx
 obtain ⟨N,hN⟩:=bd h
 have hpf:=f9 hD.c5 (f9 hD.pl am)
 obtain ⟨w,c,rfl⟩:=cB w
 refine dv [b9 i D.n,aN,d5 (bk D.n D.pt) i (.ref (D.pt i)),d5 (bk D.n kw) i (.ref (kw i)),c0 (p7 _ P (D.pt i) (kw i) (D.pts l i) (D.pc i) (l i)) qJ] hpf [U,.e,U,.c 0 [0],aj,aj,.k,aL,aj,bY,bY,bY,.e,bY,.c 2 [2001],aD,aj,bJ,bJ,bJ,.e,bJ,.c 3 [1001],.k,.c 4 [3,4],.s] L hN λ ps=>?_
 refine aC AY [0,1,2,3,4] 5 (nw++[]) (λ W=>⟨.compLoop pA 0 (.ref it) (.ref acc) (fR pA gf [("points",D.N+5),("kept",D.N+8)] D.N),true,none,[(it,kX (i+1) D.n),(acc,ab ys an),(gf,aJ w [("k",g7 js ((ps 0).4),.int ((↑i:Int)) ((ps 0).6 0))] (g0 js fn)),(92,mP 61 19 ((ps 3).6 0)),(99,dz 64 32 ((ps 3).as 1) ((ps 3).as 2))],[al (61:Int) (19:Int) o92,al (64:Int) (32:Int) o99,hZ W P (D.pt i) (D.pts l i) (D.pc i),∃ lv,KP W P (kw i)=some (ab (D.pts l i) lv),kP (D.pts l i).size (D.pc i) (l i),bM (bL (D.pc i)) (D.pts l i).size=l i,l i < (6:Nat),iz (↑i:Int),(bk D.n kw)[(↑i:Int).toNat]?=some (Value.ref (kw i)),iz (↑i:Int),(bk D.n D.pt)[(↑i:Int).toNat]?=some (Value.ref (D.pt i)),i < D.n]⟩) rfl (by apply jq hj c;kernel_rfl) (by decide) rfl rfl rfl rfl rfl ?_ λ h' g' t' L'=>?_
 ·repeat' first|exact ae|refine aa ?_ ?_
  all_goals first
   |omega
   |exact ⟨by omega,by omega⟩
   |exact bK hi
   |exact hkw i hi
   |exact ⟨_,hkw i hi⟩
   |exact hP.pt i hi
   |exact hP.tot i hi
   |exact hP.l6 i hi
   |exact hS i hi
   |exact ho92
   |exact ho99
 simp only [aX] at L'
 exact k h' g' t' (0,0,0) _ _ _ _ _ ⟨_,_,rfl,jA _,gW _ _ _ _⟩ L'
noncomputable def sA (w:World) (P:KF) (D:PD) (l:Nat→Nat) (kw:Nat→Addr) (kv:Nat→Nat):Sp:=mU w 600 2000 pA "k" D.n [(0,λ fd=>92),(0,λ fd=>99),(1,λ fd=>D.N+8),(1,λ fd=>mt (fT (az fd 5)))] (λ fd=>⟨[("points",D.N+5),("kept",D.N+8)],"_law_paired.<locals>.",153,D.N,[(92,az fd 3),(99,az fd 4)],[(D.N+8,ak (.ref (aT fd 6))),(aT fd 6,ab (bk D.n kw) (ao (az fd 6)))],[],λ z=>[dz 61 19 (z 4) (z 5),dz 64 32 (z 6) (z 7)],(kU λ _=>false),nF,[al 61 19 (az fd 3),al 64 32 (az fd 4),c7 w P D,kQ w P D l,D.n≤6,∀ k,k < D.n→KP w P (kw k)=some (ab (D.pts l k) (kv k)),∀ k,k < D.n→kP (D.pts l k).size (D.pc k) (l k)]⟩)
theorem nG {w:World}{P:KF}{D:PD}{l:Nat→Nat}{kw:Nat→Addr}:bO w (KP w P) (sA w P D l kw kv):=by
 refine f5 (by decide) (by decide) (by kernel_rfl) (λ fd i q ys=>Nat.le_succ _) (λ fd z=>rfl) λ fd ho hp=>?_
 have h0:=ho _ (.head _)
 have h1:=ho _ bU
 have h2:=ho _ fG
 have h3:=ho _ jX
 have h4:=ho _ Ae
 have h5:=ho _ Gk
 have h6:=ho _ F9
 exact ⟨_,Gx rfl h0 h1 rfl,vO h2 h3 h4 h5 h6⟩
end
section
variable {w:World}{P:KF}{H:Heap}{A:Around}
noncomputable abbrev oA (oth:List Nat) (t:Nat→Tok):VA:=ah oth.length (λ j=>(oth.getD j 0:Int)) t
structure jx (n tkn:Nat) (oth:List Nat):Prop where
 lt:∀ k∈oth,k < n
 ne:∀ k∈oth,k≠tkn
 nd:oth.Nodup
 le:oth.length≤5
theorem jx.le6 {n tkn:Nat}{oth:List Nat}(h:jx n tkn oth):oth.length≤6:=by have:=h.le;lia
theorem p9 {l:List Nat}{j:Nat}(h:j < l.length):l.getD j 0∈l:=by
 rw [hW,dT h];exact List.getElem_mem h
theorem rN {n tkn:Nat}{oth:List Nat}(h:jx n tkn oth):∀ j,j < oth.length→oth.getD j 0 < n:=λ j hj=>h.lt _ (p9 hj)
theorem wA (b:Nat→Bool) (z:Nat→Nat) (n:Nat):Cx (cn (ca λ i q=>.bool (b i)) (aw z n)) (.bool true) ((List.range n).any b):=by
 rw [lO]
 refine ⟨λ v=>match v with|.bool x=>x|_=>false,λ y hy=>?_,?_⟩
 ·unfold b6 at hy
  simp only [List.mem_toArray,aY] at hy
  obtain ⟨i,_,rfl⟩:=hy
  refine .inr (.inr ⟨_,_,rfl,rfl,?_⟩)
  cases b i<;>rfl
 ·unfold b6
  simp [List.any_map,Function.comp_def]
theorem BY (gb:Nat→Bool):∀ (l:List Nat),(List.range l.length).any (λ i=>gb (l.getD i 0))=l.any gb:=by
 intro l
 refine Bool.eq_iff_iff.mpr ?_
 simp only [List.any_eq_true,List.mem_range]
 constructor
 ·rintro ⟨i,hi,h⟩
  exact ⟨_,p9 hi,h⟩
 ·rintro ⟨k,hk,h⟩
  obtain ⟨i,hi,rfl⟩:=List.mem_iff_getElem.mp hk
  exact ⟨i,hi,by rw [hW,dT hi];exact h⟩
theorem rU {oth:List Nat}{r:Bool}(h:oth.any gb=r):Cx (cn (ca λ i q=>.bool (gb (oth.getD i 0))) (aw z oth.length)) (.bool true) r:=by
 rw [←h,←BY];exact wA _ _ _
theorem o7 {n:Nat}:bx (cn (kU λ _=>false) (aw z n)) #[] true:=by
 have:∀ qs:List Q3,cn (kU λ _=>false) qs=#[]:=by
  have key:∀ (n:Nat) (qs:List Q3),qs.length=n→cn (kU λ _=>false) qs=#[]:=by
   intro n
   induction n with
   |zero=>intro qs h;rw [List.length_eq_zero_iff.mp h];rfl
   |succ n ih=>
    intro qs h
    have hne:qs≠[]:=λ e=>by rw [e] at h;cases h
    have hl:qs.dropLast.length=n:=by rw [List.length_dropLast,h];rfl
    rw [←List.dropLast_concat_getLast hne,fN,ih _ hl]
  exact λ qs=>key _ qs rfl
 rw [this];exact .refl _
theorem HT {D:PD}{l:Nat→Nat}{T it pp lv fn pn:Nat}{fl:aq}{el:List Env}{t:Nat→Tok}{o92 o99 o151:Obj}{sl:iT}{k0 k1:Tok}{kvl:Value}{ps0:VA}{tkn:Nat}(hD:c7 w P D) (ho:jx D.n tkn (a::ot)) (hr:(a::ot).any gb=false) (he:(aB fb D.n).length≠0) (hfl:∀ p∈fl,p∈tl0) (Q:Flow→Shared→Prop) (L:ag (KP w P) H hh (bg D it pp fl) (ed w D l fb gb T it pp io [en "pairs" k0 (.ref pp),en "k" k1 kvl,en "sizes" k2 (.ref B.zl),en "live" k5 (.ref B.vl),en "others" k8 (.ref ol)] fn sl (ak (.int (tkn:Int) k11)) num k4 k6 o92 o99 o151 t lv ps0 pn kw B++((ol,ab (oA (a::ot) tq) on)::tl0)) [])
  (hQ:∀ (h:Heap) (g:BG) (t':Nat),ag (KP w P) H h (bg D it pp fl) (ed w D l fb gb T it pp io [en "pairs" k0 (.ref pp),en "k" k1 kvl,en "sizes" k2 (.ref B.zl),en "live" k5 (.ref B.vl),en "others" k8 (.ref ol)] fn sl (ak (.int (tkn:Int) k11)) num k4 k6 o92 o99 o151 t lv ps0 pn kw B++((ol,ab (oA (a::ot) tq) on)::tl0)) []→Q .next ⟨h,g,dr,t',os⟩):
  wpOwn (model pg w) (AQ (aQ D.N::el)) (ch D.N it) (execs [iN 15] (aQ D.N)) Q NE ⟨hh,gg,dr,tt,os⟩:=by
 obtain ⟨N,hN⟩:=bd hh
 obtain ⟨w,c,rfl⟩:=cB w
 refine wW [G4 false,c0 (lj _ P D gb (a::ot).length (λ j=>(a::ot).getD j 0)) i8,yJ false] (cY hD) (bp (by kernel_rfl)) L hN [U,df,df,.e,df,.e,U,.c 1 [2,1,0,23,8,20],U,U,U,ay,ay,.e,ay,.c 0 [1],cS,jv,U,jv,.e,jv,.c 2 [23,0]] λ ps=>?_
 refine bt rfl [4,5,6,7,8,9,10,11,12,13,14,15,16,17,18,19,20,21,22,23,24] 25 (tl0++ec nF (aw (ps 0).as (a::ot).length)) (λ W=>⟨.ok .next,ed W D l fb gb T it pp io [en "pairs" k0 (.ref pp),en "k" k1 kvl,en "sizes" k2 (.ref B.zl),en "live" k5 (.ref B.vl),en "others" k8 (.ref ol)] fn sl (ak (.int ((↑tkn:Int)) k11)) num k4 k6 o92 o99 o151 t lv ps0 pn kw B++[(ol,ab (oA (a::ot) tq) on)],[bx (eP D fb B.tv) #[] false,Cx (cn (ca λ i q=>.bool (gb ((a::ot).getD i 0))) (aw (ps 0).as (a::ot).length)) (.bool true) false,∃ t,oA (a::ot) tq=ah (a::ot).length (λ j=>((a::ot).getD j 0:Int)) t,D.n≤(6:Nat),(a::ot).length≤(6:Nat),∀ j,j < (a::ot).length→(a::ot).getD j 0 < D.n]⟩) rfl (.next) (by apply bq c;kernel_rfl) rfl (by decide) (aR 14 rfl λ p hp=>aI _ (hfl p hp)) ?_ λ h g t9 L'=>?_
 ·exact aa (EV he) (aa (rU hr) (aa (⟨tq,rfl⟩) (aa (n6 hD) (aa (ho.le6) (aa (rN ho) (ae))))))
 rw [bR,aX] at L'
 exact hQ h g t9 L'
theorem HR {D:PD}{l:Nat→Nat}{T it pp lv fn pn:Nat}{fl:aq}{el:List Env}{t:Nat→Tok}{o92 o99 o151:Obj}{sl:iT}{k0 k1:Tok}{kvl:Value}{ps0:VA}{tkn:Nat}(hD:c7 w P D) (ho:jx D.n tkn (a::ot)) (hr:(a::ot).any gb=true) (he:(aB fb D.n).length≠0) (hP:kQ w P D l) (hkw:∀ j,j < D.n→KP w P (kw j)=some (ab (D.pts l j) (kv j))) (hS:∀ k,k < D.n→kP (D.pts l k).size (D.pc k) (l k)) (h92:al 61 19 o92) (h99:al 64 32 o99) (hfl:∀ p∈fl,p∈tl0) (Q:Flow→Shared→Prop) (L:ag (KP w P) H hh (bg D it pp fl) (ed w D l fb gb T it pp io [en "pairs" k0 (.ref pp),en "k" k1 kvl,en "sizes" k2 (.ref B.zl),en "live" k5 (.ref B.vl),en "others" k8 (.ref ol)] fn sl (ak (.int (tkn:Int) k11)) num k4 k6 o92 o99 o151 t lv ps0 pn kw B++((ol,ab (oA (a::ot) tq) on)::tl0)) [])
  (hQ:∀ (h:Heap) (g:BG) (t' fn':Nat) (es':List (Str×Tok×Value)) (o92' o99':Obj),al 61 19 o92'→al 64 32 o99'→ag (KP w P) H h (bg D it pp fl) (ed w D l fb gb T it pp io es' fn' sl (ak (.int (tkn:Int) k11)) num k4 k6 o92' o99' o151 t lv ps0 pn kw B++tl0) []→Q (.ret (.bool false)) ⟨h,g,dr,t',os⟩):
  wpOwn (model pg w) (AQ (aQ D.N::el)) (ch D.N it) (execs [iN 15] (aQ D.N)) Q NE ⟨hh,gg,dr,tt,os⟩:=by
 obtain ⟨N,hN⟩:=bd hh
 obtain ⟨w,c,rfl⟩:=cB w
 refine y8 (V:=vc _ P [G4 true,c0 (lj _ P D gb (a::ot).length (λ j=>(a::ot).getD j 0)) i8,eI D.n,c0 (sA _ P D l kw kv) nG] (Gj D) [] H (bg D it pp fl) N tt gg dr os (cz id Q NE)) (cR (cY hD)) rfl (bp (by kernel_rfl)) L hN [U,df,df,.e,df,.e,U,.c 1 [2,1,0,23,8,20],U,U,U,ay,ay,.e,ay,.c 0 [1],.k,.k,ib,.e,.e,.e,.e,U,U,.e,U,.e,U,U,U,.e,U,.c 2 [0],U,.c 3 [2,1,0,17,18,10,21],iY,iY,U,U,U,iY,aj,U,aj,.e,aj,.s] λ ps=>?_
 refine gP AN [8,9,10,11,12,13,14,15,16,17,18,19,20,21,22,23,24,25,26,27,2,0] 29 ((tl0++ec nF (aw (ps 0).as (a::ot).length))++ec nF (aw (ps 3).as D.n)) (λ W=>⟨.builtin "list.__eq__" ⟨[.ref (ps 2).n,.ref (ps 3).n],[]⟩,true,none,ed W D l fb gb T it pp io [en "pairs" k0 (.ref pp),en "k" k1 kvl,en "sizes" k2 (.ref B.zl),en "live" k5 (.ref B.vl),en "others" k8 (.ref ol),en "torn" (ps 3).t (.ref (ps 2).n)] (fn+1) sl (ak (.int ((↑tkn:Int)) k11)) num k4 k6 (dz 61 19 ((ps 3).as 4) ((ps 3).as 5)) (dz 64 32 ((ps 3).as 6) ((ps 3).as 7)) o151 t lv ps0 pn kw B++[((ps (nat_lit 2)).3,ab (cn (kU λ _=>false) (aw (ps 3).as D.n)) ((ps 3).as 0)),((ps (nat_lit 3)).3,ab #[] 0)],[al (61:Int) (19:Int) o92,al (64:Int) (32:Int) o99,c7 W P D,kQ W P D l,D.n≤(6:Nat),∀ (k:Nat),k < D.n→KP W P (kw k)=some (ab (D.pts l k) (kv k)),∀ (k:Nat),k < D.n→kP (D.pts l k).size (D.pc k) (l k),D.n < (1000:Nat),Cx (cn (ca λ i q=>.bool (gb ((a::ot).getD i 0))) (aw (ps 0).as (a::ot).length)) (.bool true) true,∃ t,oA (a::ot) tq=ah (a::ot).length (λ j=>((a::ot).getD j 0:Int)) t,D.n≤(6:Nat),(a::ot).length≤(6:Nat),∀ j,j < (a::ot).length→(a::ot).getD j 0 < D.n]⟩) rfl (by apply bq c;kernel_rfl) (by decide) (aR 14 rfl λ p hp=>aI _ (aI _ (hfl p hp))) rfl rfl rfl rfl ?_ λ h g t2 L' _ md=>?_
 ·exact aa (h92) (aa (h99) (aa (hD) (aa (hP) (aa (n6 hD) (aa (hkw) (aa (hS) (aa (tG hD) (aa (rU hr) (aa (⟨tq,rfl⟩) (aa (n6 hD) (aa (ho.le6) (aa (rN ho) (ae)))))))))))))
 rw [bR,bR,aX,aX] at L'
 refine AW o7 (L'.ownAt 20 _ _ rfl) (L'.ownAt 21 _ _ rfl) ?_
 obtain ⟨M,hM⟩:=bd h
 refine ma (cz id Q NE) [yJ false] (cY hD) hM [U,df,U,df,.e,df,.c 0 [20,0]] L' md λ ps1=>?_
 refine bt rfl [1,2,3,4,5,6,7,8,9,10,11,12,13,14,15,16,17,18,19,20] 23 tl0 (λ W=>⟨.ok (.ret (.bool false)),ed W D l fb gb T it pp io [en "pairs" k0 (.ref pp),en "k" k1 kvl,en "sizes" k2 (.ref B.zl),en "live" k5 (.ref B.vl),en "others" k8 (.ref ol),en "torn" (ps 3).t (.ref (ps 2).n)] (fn+1) sl (ak (.int ((↑tkn:Int)) k11)) num k4 k6 (dz 61 19 ((ps 3).as 4) ((ps 3).as 5)) (dz 64 32 ((ps 3).as 6) ((ps 3).as 7)) o151 t lv ps0 pn kw B,[bx (eP D fb B.tv) #[] false]⟩) rfl (.ret (.bool false)) (by apply bq c;kernel_rfl) rfl (by decide) (aR 14 rfl hfl) ?_ λ h g t9 L'=>?_
 ·exact aa (EV he) ae
 exact hQ h g t9 _ _ _ _ (gW _ _ _ _) (gW _ _ _ _) L'
theorem Hm {D:PD}{l:Nat→Nat}{T it pp lv fn pn:Nat}{fl:aq}{el:List Env}{t:Nat→Tok}{o92 o99 o151:Obj}{sl:iT}{k0 k1:Tok}{kvl:Value}{ps0:VA}{tkn:Nat}(hD:c7 w P D) (ho:jx D.n tkn ([]:List Nat)) (hr:([]:List Nat).any gb=false) (he:(aB fb D.n).length=0) (hP:kQ w P D l) (hkw:∀ j,j < D.n→KP w P (kw j)=some (ab (D.pts l j) (kv j))) (hS:∀ k,k < D.n→kP (D.pts l k).size (D.pc k) (l k)) (h92:al 61 19 o92) (h99:al 64 32 o99) (hfl:∀ p∈fl,p∈tl0) (Q:Flow→Shared→Prop) (L:ag (KP w P) H hh (bg D it pp fl) (ed w D l fb gb T it pp io [en "pairs" k0 (.ref pp),en "k" k1 kvl,en "sizes" k2 (.ref B.zl),en "live" k5 (.ref B.vl),en "others" k8 (.ref ol)] fn sl (ak (.int (tkn:Int) k11)) num k4 k6 o92 o99 o151 t lv ps0 pn kw B++((ol,ab (oA ([]:List Nat) tq) on)::tl0)) [])
  (hQ:∀ (h:Heap) (g:BG) (t' fn':Nat) (es':List (Str×Tok×Value)) (o92' o99':Obj),al 61 19 o92'→al 64 32 o99'→ag (KP w P) H h (bg D it pp fl) (ed w D l fb gb T it pp io es' fn' sl (ak (.int (tkn:Int) k11)) num k4 k6 o92' o99' o151 t lv ps0 pn kw B++tl0) []→Q (.ret (.bool true)) ⟨h,g,dr,t',os⟩):
  wpOwn (model pg w) (AQ (aQ D.N::el)) (ch D.N it) (execs [iN 15] (aQ D.N)) Q NE ⟨hh,gg,dr,tt,os⟩:=by
 obtain ⟨N,hN⟩:=bd hh
 obtain ⟨w,c,rfl⟩:=cB w
 refine y8 (V:=vc _ P [G4 false,c0 (lj _ P D gb ([]:List Nat).length (λ j=>([]:List Nat).getD j 0)) i8,yJ true,eI D.n,c0 (sA _ P D l kw kv) nG] (Gj D) [] H (bg D it pp fl) N tt gg dr os (cz id Q NE)) (cR (cY hD)) rfl (bp (by kernel_rfl)) L hN [U,df,df,.e,df,.e,U,.c 1 [2,1,0,23,8,20],U,ay,ay,.e,ay,.c 0 [1],cS,jv,U,jv,.e,jv,.c 2 [23,0],.k,.k,ib,.e,.e,.e,.e,U,U,.e,U,.e,U,U,U,.e,U,.c 3 [0],U,.c 4 [2,1,0,18,19,11,22],mW,mW,U,U,U,mW,aj,U,aj,.e,aj,.c 2 [2,0],ow,xr,U,xr,.e,xr,.c 2 [29,0]] λ ps=>?_
 refine bt rfl [10,11,12,13,14,15,16,17,18,19,20,21,22,23,24,25,26,27,28,29] 31 ((tl0++ec nF (aw (ps 0).as ([]:List Nat).length))++ec nF (aw (ps 4).as D.n)) (λ W=>⟨.ok (.ret (.bool true)),ed W D l fb gb T it pp io [en "pairs" k0 (.ref pp),en "k" k1 kvl,en "sizes" k2 (.ref B.zl),en "live" k5 (.ref B.vl),en "others" k8 (.ref ol),en "torn" (ps 4).t (.ref (ps 3).n)] (fn+1) sl (ak (.int ((↑tkn:Int)) k11)) num k4 k6 (dz 61 19 ((ps 4).as 4) ((ps 4).as 5)) (dz 64 32 ((ps 4).as 6) ((ps 4).as 7)) o151 t lv ps0 pn kw B,[bx (eP D fb B.tv) #[] true,bx (cn (kU λ _=>false) (aw (ps 4).as D.n)) #[] true,al (61:Int) (19:Int) o92,al (64:Int) (32:Int) o99,c7 W P D,kQ W P D l,D.n≤(6:Nat),∀ (k:Nat),k < D.n→KP W P (kw k)=some (ab (D.pts l k) (kv k)),∀ (k:Nat),k < D.n→kP (D.pts l k).size (D.pc k) (l k),D.n < (1000:Nat),bx (eP D fb B.tv) #[] true,Cx (cn (ca λ i q=>.bool (gb (([]:List Nat).getD i 0))) (aw (ps 0).as ([]:List Nat).length)) (.bool true) false,∃ t,oA ([]:List Nat) tq=ah ([]:List Nat).length (λ j=>(([]:List Nat).getD j 0:Int)) t,D.n≤(6:Nat),([]:List Nat).length≤6,∀ j,j < ([]:List Nat).length→([]:List Nat).getD j 0 < D.n]⟩) rfl (.ret (.bool true)) (by apply bq c;kernel_rfl) rfl (by decide) (aR 14 rfl λ p hp=>aI _ (aI _ (hfl p hp))) ?_ λ h g t9 L'=>?_
 ·exact aa (ED he) (aa (o7) (aa (h92) (aa (h99) (aa (hD) (aa (hP) (aa (n6 hD) (aa (hkw) (aa (hS) (aa (tG hD) (aa (ED he) (aa (rU hr) (aa (⟨tq,rfl⟩) (aa (n6 hD) (aa (ho.le6) (aa (rN ho) (ae))))))))))))))))
 rw [bR,bR,aX,aX] at L'
 exact hQ h g t9 _ _ _ _ (gW _ _ _ _) (gW _ _ _ _) L'
end
variable {tkn:Nat}{oth:List Nat}
section
variable {w:World}{P:KF}{H:Heap}{A:Around}
noncomputable abbrev Fg (N i2:Addr):Code:=.forLoop (m6 (iN 18)) (.ref i2) (bA (iN 18)) (ng (iN 18)) (aQ N)
noncomputable abbrev AJ:Around:=⟨none,590,none,none,1930⟩
theorem DT {t:Nat→Tok}{j k:Nat}(h:oth[j]?=some k):(oA oth t)[j]?=some (.int (k:Int) (t j)):=by
 have hl:=(j0.mp h).1
 rw [aG hl,hW,h];rfl
theorem wS {D:PD}{l:Nat→Nat}{k x:Nat}(h:x≤l k):((D.pts l k).toList.take (D.na k+x)).toArray=D.pts (cg l k x) k:=by
 unfold PD.pts
 rw [cK]
 simp [List.take_take,Nat.min_eq_left h]
theorem HV {D:PD}{l:Nat→Nat}{k x:Nat}(hD:c7 w P D) (hk:k < D.n) (hl:l k≤D.d k) (hx:l k=x+1):D.na k+x≤1000:=by
 have:=zV hD hk hl
 rw [eZ hD hk hl] at this;lia
theorem EE {D:PD}{l:Nat→Nat}{k x:Nat}(hD:c7 w P D) (hk:k < D.n) (hl:l k≤D.d k) (hx:l k=x+1) (hxv:(D.pts l k)[D.na k+x]?=some (.ref xv)):0 < (D.pts l k).size∧(D.pts l k)[(D.pts l k).size - 1]?=some (.ref xv):=by
 have e:=eZ hD hk hl
 rw [hx] at e
 rw [e]
 exact ⟨by lia,hxv⟩
theorem AT {D:PD}{l:Nat→Nat}{k x:Nat}(hD:c7 w P D) (hk:k < D.n) (hl:l k≤D.d k) (hx:l k=x+1):((D.pts l k).toList.take (D.na k+x)).length=D.na k+x:=by
 have e:=eZ hD hk hl
 rw [List.length_take,Array.length_toList,e];lia
theorem DW {D:PD}{l:Nat→Nat}{k x:Nat}(hD:c7 w P D) (hk:k < D.n) (hl:l k≤D.d k) (hx:l k=x+1) (hxv:(D.pts l k)[D.na k+x]?=some (.ref xv)):D.pts l k=((D.pts l k).toList.take (D.na k+x)++[Value.ref xv]).toArray:=by
 have e:=eZ hD hk hl
 generalize D.pts l k=xs at *
 have h1:D.na k+x < xs.toList.length:=by rw [Array.length_toList];lia
 have h2:xs.toList[D.na k+x]'h1=Value.ref xv:=by
  have:=(Array.getElem?_eq_some_iff.mp hxv).2
  simpa using this
 apply Array.ext'
 show xs.toList=xs.toList.take (D.na k+x)++[Value.ref xv]
 rw [←h2,←List.take_succ_eq_append_getElem h1,List.take_of_length_le (by rw [Array.length_toList];lia)]
theorem DR {x:Nat}(h:a=x+1):(a:Int) - 1=(x:Int):=by lia
theorem CC {D:PD}{l:Nat→Nat}{T it pp lv fn pn pd dn x j:Nat}{xa xb:Tok}{q1 q2:Str}{fl:aq}{t:Nat→Tok}{o92 o99 o151:Obj}{k0 k1:Tok}{kvl vv:Value}{v9 v10 v13 v14:Option Value}{sl:iT}{ps0:VA}(hD:c7 w P D) (ht:tkn < D.n) (hk:kk < D.n) (hj:oth[j]?=some kk) (hx:l kk=x+1) (hl:l kk≤D.d kk) (hkw:KP w P (kw kk)=some (ab (D.pts l kk) (kv kk))) (hps:ps0.size≤1000) (hxv:(D.pts l kk)[D.na kk+x]?=some (.ref xv)) (hxo:KP w P xv=some (aU #[.str q1 xa,.str q2 xb] 0)) (hfl:∀ p∈fl,p∈tl0) (R:RP)
  (L:ag (KP w P) H hh (bg D it pp fl) ((D.pt kk,ax pd (D.pts l kk) pv)::(pd,d8 hs tk0 0 tk1 dn)::(gm w D l T tkn it pp io [en "pairs" k0 (.ref pp),en "k" k1 kvl,en "sizes" k2 zv,en "live" k5 vv,en "others" k8 ov] fn sl v9 v10 v13 v14 k4 k11 o92 o99 o151 t lv ps0 pn kl kn kw++((i2,cr ol (j:Nat))::(ol,ab (oA oth tq) on)::tl0))) [])
  (hR:∀ (h:Heap) (g:BG) (t' pv' lv' pn' tp:Nat) (u t1 t2 tk:Tok),ag (KP w P) H h (bg D it pp fl) ((D.pt kk,ax pd (D.pts (cg l kk x) kk) pv')::(pd,d8 hs tk0 0 tk1 dn)::(gm w D (cg l kk x) T tkn it pp io [en "pairs" k0 (.ref pp),en "k" k1 (.int (kk:Int) tk),en "sizes" k2 zv,en "live" k5 vv,en "others" k8 ov] fn sl v9 v10 v13 v14 k4 k11 o92 o99 o151 (cg t kk u) lv' (ps0.push (.ref tp)) pn' kl kn kw++((tp,aU #[.int (tkn:Int) t1,.int (kk:Int) t2] 0)::(i2,cr ol (j+1:Nat))::(ol,ab (oA oth tq) on)::tl0))) []→codeAny (model pg w) AJ (Fg D.N i2) R ⟨h,g,dr,t',os⟩):
  codeAny (model pg w) AJ (Fg D.N i2) R ⟨hh,gg,dr,tt,os⟩:=by
 obtain ⟨N,hN⟩:=bd hh
 have hpf:∀ p∈(xv,aU #[.str q1 xa,.str q2 xb] 0)::(kw kk,ab (D.pts l kk) (kv kk))::Gj D,KP w P p.1=some p.2:=f0.mpr ⟨hxo,f0.mpr ⟨hkw,cY hD⟩⟩
 obtain ⟨w,c,rfl⟩:=cB w
 refine xT [dl (oA oth tq) j (.int (kk:Int) (tq j)),F7 (D.pts l kk) (.ref xv),d5 (LX D l t) (kk:Int) (.int (l kk) (t kk)),GB,aN,d5 (bk D.n D.pt) (kk:Int) (.ref (D.pt kk)),c0 (C6 (D.na kk+x) xv) zR,d5 (bk D.n kw) (kk:Int) (.ref (kw kk)),H7] hpf [ft,.e,ft,.c 0 [17,18],aj,aj,gF,aj,jP,jP,jP,.e,jP,.c 2 [11],.e,.e,gF,aj,jP,jP,.e,jP,.c 3 [11],aj,dX,dX,dX,dX,mW,aj,.e,mf,.c 4 [16],ib,cS,kY,kY,kY,.e,kY,.c 5 [2007],ay,.k,.k,.k,ay,.k,.k,.k,ay,.k,.k,.k,.k,ay,aj,.k,.c 6 [1,2],dR,cS,ft,ft,ft,.e,ft,.c 7 [17],.e,.e,bY,bY,bY,.e,bY,.c 1 [2001],.e,aL,aL,aL,.e,aL,.c 8 [2000],.s] 4 rfl (bp (by kernel_rfl)) (bp (by kernel_rfl)) L hN λ ps=>?_
 refine cE AJ [1,2,3,4,5,6,7,8,9,10,11,12,13,14,15,16,17,0,18,19] 20 (tl0++[]) (λ W=>⟨Fg D.N i2,true,none,[(D.14 kk,ax pd ((List.take (D.na kk+x) (D.pts l kk).toList).toArray) ((ps 5).6 0)),(pd,d8 hs tk0 0 tk1 dn),(D.1,aV W [en "pairs" k0 (.ref pp),en "k" k1 (.int (kk:Int) (tq j)),en "sizes" k2 zv,en "live" k5 vv,en "others" k8 ov] fn sl),(it,io),(D.1+7,ak (.int ((↑T:Int)) k4)),(D.1+8,ak (.ref kl)),(D.1+9,aF v9),(D.1+10,aF v10),(D.1+11,ak (.int ((↑tkn:Int)) k11)),(D.1+13,aF v13),(D.1+14,aF v14),(D.5,ab ((LX D l t).setIfInBounds kk (.int ((l kk:Int) - 1) ((ps 1).t+1))) ((ps 2).as 0)),(92,o92),(99,o99),(151,o151),(pp,ab (ps0.push (.ref ((ps 2).3))) ((ps 3).6 0)),(kl,ab (bk D.n kw) kn),((ps (nat_lit 2)).3,aU #[.int ((↑tkn:Int)) k11,.int ((↑kk:Int)) (tq j)] 0),(i2,i4 ol (j+1)),(ol,ab (oA oth tq) on)],[(0:Nat) < (D.pts l kk).size∧(D.pts l kk)[(D.pts l kk).size - (1:Nat)]?=some (Value.ref xv),iz (↑kk:Int),(bk D.n kw)[(↑kk:Int).toNat]?=some (Value.ref (kw kk)),D.na kk+x≤(1000:Nat),D.pts l kk=(List.take (D.na kk+x) (D.pts l kk).toList++[Value.ref xv]).toArray,(List.take (D.na kk+x) (D.pts l kk).toList).length=D.na kk+x,iz (↑kk:Int),(bk D.n D.pt)[(↑kk:Int).toNat]?=some (Value.ref (D.pt kk)),ps0.size≤(1000:Nat),(0:Int)≤(↑kk:Int)∧(↑kk:Int) < (↑(LX D l t).size:Int)∧(LX D l t).size≤(1000:Nat),iz (↑kk:Int),(LX D l t)[(↑kk:Int).toNat]?=some (Value.int (↑(l kk):Int) (t kk)),(oA oth tq)[j]?=some (Value.int (↑kk:Int) (tq j))]⟩) rfl (by apply bq c;kernel_rfl) (by decide) (ya 14 rfl λ p hp=>aI _ (hfl p hp)) rfl rfl rfl rfl ?_ λ h' g' t' L'=>?_
 ·exact aa (EE hD hk hl hx hxv) (aa (jI hD hk) (aa (bK hk) (aa (HV hD hk hl hx) (aa (DW hD hk hl hx hxv) (aa (AT hD hk hl hx) (aa (jI hD hk) (aa (bK hk) (aa (hps) (aa (zX hD hk) (aa (jI hD hk) (aa (aG hk) (aa (DT hj) (ae)))))))))))))
 rw [aX,DR hx,qx,wS (by lia)] at L'
 exact hR _ _ _ _ _ _ _ _ _ _ _ L'
theorem E7 {D:PD}{l:Nat→Nat}{T it pp lv fn pn:Nat}{fl:aq}{t:Nat→Tok}{o92 o99 o151:Obj}{k0 k1:Tok}{kvl vv:Value}{v9 v10 v13 v14:Option Value}{sl:iT}{ps0:VA}(hfl:∀ p∈fl,p∈tl0) (R:RP)
  (L:ag (KP w P) H hh (bg D it pp fl) (gm w D l T tkn it pp io [en "pairs" k0 (.ref pp),en "k" k1 kvl,en "sizes" k2 zv,en "live" k5 vv,en "others" k8 ov] fn sl v9 v10 v13 v14 k4 k11 o92 o99 o151 t lv ps0 pn kl kn kw++((i2,cr ol (oA oth tq).size)::(ol,ab (oA oth tq) on)::tl0)) [])
  (hR:∀ (h:Heap) (g:BG) (t':Nat),ag (KP w P) H h (bg D it pp fl) (gm w D l T tkn it pp io [en "pairs" k0 (.ref pp),en "k" k1 kvl,en "sizes" k2 zv,en "live" k5 vv,en "others" k8 ov] fn sl v9 v10 v13 v14 k4 k11 o92 o99 o151 t lv ps0 pn kl kn kw++tl0) []→R (.ok .next) ⟨h,g,dr,t',os⟩):
  codeAny (model pg w) AJ (Fg D.N i2) R ⟨hh,gg,dr,tt,os⟩:=by
 obtain ⟨N,hN⟩:=bd hh
 refine xT [yb (oA oth tq)] am [dX,.e,dX,.c 0 [15,16],U,.e] 4 rfl (bp (by kernel_rfl)) (bp (by kernel_rfl)) L hN λ ps=>?_
 refine ba [2,3,4,5,6,7,8,9,10,11,12,13,14,15,16] 19 tl0 (λ W=>⟨.ok .next,[(D.1,aV w [en "pairs" k0 (.ref pp),en "k" k1 kvl,en "sizes" k2 zv,en "live" k5 vv,en "others" k8 ov] fn sl),(it,io),(D.1+7,ak (.int ((↑T:Int)) k4)),(D.1+8,ak (.ref kl)),(D.1+9,aF v9),(D.1+10,aF v10),(D.1+11,ak (.int ((↑tkn:Int)) k11)),(D.1+13,aF v13),(D.1+14,aF v14),(D.5,ab (LX D l t) lv),(92,o92),(99,o99),(151,o151),(pp,ab ps0 pn),(kl,ab (bk D.n kw) kn)],[]⟩) rfl (by kernel_rfl) (by decide) (aR 14 rfl hfl) ae λ h' g' t' L'=>?_
 exact hR _ _ _ L'
end
section
variable {w:World}{P:KF}{H:Heap}{A:Around}
noncomputable def cq (w:World) (P:KF) (ps:VA) (prs:List (Nat×Nat)):Prop:=ps.size=prs.length∧∀ (i:Nat) (p:Nat×Nat),prs[i]?=some p→∃ u t1 t2,ps[i]?=some (Value.ref u)∧KP w P u=some (aU #[.int (p.1:Int) t1,.int (p.2:Int) t2] 0)
noncomputable def cx (w:World) (P P':KF):Prop:=∀ a o,oY o→KP w P a=some o→KP w P' a=some o
theorem cx.refl:cx w P P:=λ _ _ _ h=>h
theorem cx.trans {P'':KF}(h:cx w P P') (h':cx w P' P''):cx w P P'':=λ a o s e=>h' a o s (h a o s e)
theorem cq.kept {prs:List (Nat×Nat)}(h:cq w P ps prs) (k:cx w P P'):cq w P' ps prs:=
 ⟨h.1,λ i p hp=>by obtain ⟨u,t1,t2,e1,e2⟩:=h.2 i p hp;exact ⟨u,t1,t2,e1,k _ _ f6 e2⟩⟩
theorem cq.push {prs:List (Nat×Nat)}{p:Nat×Nat}{t1 t2:Nat}(h:cq w P ps prs) (hu:KP w P u=some (aU #[.int (p.1:Int) t1,.int (p.2:Int) t2] 0)):cq w P (ps.push (.ref u)) (prs++[p]):=by
 refine ⟨by simp [h.1],λ i q hq=>?_⟩
 by_cases hi:i < prs.length
 ·rw [List.getElem?_append_left hi] at hq
  obtain ⟨u',t1',t2',e1,e2⟩:=h.2 i q hq
  refine ⟨u',t1',t2',?_,e2⟩
  rw [Array.getElem?_push_lt (by rw [h.1];exact hi)]
  rw [←e1,i9 (by rw [h.1];exact hi)]
 ·have hl:i < (prs++[p]).length:=(j0.mp hq).1
  have:i=prs.length:=by simp at hl;lia
  obtain rfl:=this.symm
  rw [List.getElem?_append_right (Nat.le_refl _),Nat.sub_self] at hq
  have:p=q:=by simpa using hq
  subst this
  refine ⟨u,t1,t2,?_,hu⟩
  rw [←h.1];exact Array.getElem?_push_size
theorem qr {D:PD}{pdf:Nat→Addr}{k:Nat}(hX:wH w P (D.pt k) (pdf k) xs):cx w P (kL P (D.pt k) (pdf k) o1 o2):=λ a o s e=>zH hX e s
theorem eU (hS:∀ p∈S,KP w P p.1=none):cx w P (bN P S):=λ a o s e=>b0 hS e
theorem aZ.kept {pc:Nat→Str×Str}(k:cx w P P') (h:aZ w P xs pc):aZ w P' xs pc:=
 ⟨h.1,λ i hi=>by obtain ⟨h1,h2,u,tf,tq,e1,e2⟩:=h.2 i hi;exact ⟨h1,h2,u,tf,tq,e1,k _ _ f6 e2⟩⟩
theorem c7.kept {D:PD}(k:cx w P P') (h:c7 w P D):c7 w P' D:=
 ⟨h.n56,k _ _ bj h.c2,k _ _ bj h.c3,k _ _ bj h.c4,k _ _ bj h.c5,k _ _ bj h.c6,k _ _ bj h.c12,k _ _ bc h.lk,k _ _ bc h.rl,k _ _ bc h.nl,k _ _ bc h.pl,λ j hj=>k _ _ bc (h.row j hj),λ j hj=>(h.pcs j hj).kept k,h.len,h.d6,h.look,h.lo9⟩
theorem qw.add {D:PD}{pdf:Nat→Addr}{l:Nat→Nat}(hS:∀ p∈S,KP w P p.1=none) (h:qw w P D pdf l):qw w (bN P S) D pdf l:=
 ⟨λ k hk=>by obtain ⟨v,hs,tk0,tk1,dn,e1,e2⟩:=h.pt k hk;exact ⟨v,hs,tk0,tk1,dn,b0 hS e1,b0 hS e2⟩,h.ld⟩
noncomputable def f8 (l:Nat→Nat):List Nat→(Nat→Nat)
 |[]=>l
 |k::r=>f8 (cg l k (l k - 1)) r
theorem tE {D:PD}{l l':Nat→Nat}{k:Nat}(h:l' k=l k):D.pts l' k=D.pts l k:=by unfold PD.pts;rw [h]
theorem By {D:PD}{pdf:Nat→Addr}{T it pp:Nat}{fl:aq}{o92 o99 o151:Obj}{k0:Tok}{vv:Value}{v9 v10 v13 v14:Option Value}{sl:iT}(I:Al w H D pdf) (ht:tkn < D.n) (hO:jx D.n tkn oth) (hfl:∀ p∈fl,p∈tl0) (R:RP):
  ∀ (r pre:List Nat),oth=pre++r→∀ (P:KF) (l t:Nat→Nat) (prs:List (Nat×Nat)) (ps0:VA) (lv pn fn:Nat) (k1:Tok) (kvl:Value) (hh:Heap) (gg:BG) (tt:Nat),c7 w P D→qw w P D pdf l→cq w P ps0 prs→prs.length+r.length≤1000→(∀ k∈r,0 < l k)→(∀ k∈r,KP w P (kw k)=some (ab (D.pts l k) (kv k)))→
  ag (KP w P) H hh (bg D it pp fl) (gm w D l T tkn it pp io [en "pairs" k0 (.ref pp),en "k" k1 kvl,en "sizes" k2 zv,en "live" k5 vv,en "others" k8 ov] fn sl v9 v10 v13 v14 k4 k11 o92 o99 o151 t lv ps0 pn kl kn kw++((i2,cr ol (pre.length:Nat))::(ol,ab (oA oth tq) on)::tl0)) []→
  (∀ (P':KF) (t':Nat→Nat) (ps':VA) (lv' pn' fn':Nat) (k1':Tok) (kvl':Value) (h:Heap) (g:BG) (tk:Nat),cx w P P'→c7 w P' D→qw w P' D pdf (f8 l r)→cq w P' ps' (prs++r.map λ k=>(tkn,k))→
   ag (KP w P') H h (bg D it pp fl) (gm w D (f8 l r) T tkn it pp io [en "pairs" k0 (.ref pp),en "k" k1' kvl',en "sizes" k2 zv,en "live" k5 vv,en "others" k8 ov] fn' sl v9 v10 v13 v14 k4 k11 o92 o99 o151 t' lv' ps' pn' kl kn kw++tl0) []→R (.ok .next) ⟨h,g,dr,tk,os⟩)→
  codeAny (model pg w) AJ (Fg D.N i2) R ⟨hh,gg,dr,tt,os⟩:=by
 intro r
 induction r with
 |nil=>
  intro pre hpre P l t prs ps0 lv pn fn k1 kvl hh gg tt hD hT hp hlen hpos hkw L hR
  rw [aX] at hpre
  subst hpre
  have e:(oA oth tq).size=oth.length:=au
  rw [←e] at L
  refine E7 (D:=D) (l:=l) hfl R L λ h g t' L'=>?_
  exact hR P t ps0 lv pn fn k1 kvl h g t' .refl hD hT (by rw [List.map_nil,aX];exact hp) L'
 |cons k r ih=>
  intro pre hpre P l t prs ps0 lv pn fn k1 kvl hh gg tt hD hT hp hlen hpos hkw L hR
  have hmem:k∈oth:=by rw [hpre];simp
  have hk:k < D.n:=hO.lt k hmem
  have hkr:k∉r:=by
   have:=hO.nd
   rw [hpre] at this
   have:=(bX.mp this).2.1
   exact (List.nodup_cons.mp this).1
  obtain ⟨x,hx⟩:∃ x,l k=x+1:=⟨l k - 1,by have:=hpos k (.head _);lia⟩
  have hj:oth[pre.length]?=some k:=by rw [hpre];simp
  have hX:=hT.pt k hk
  have hld:=hT.ld k hk
  have hsz:=eZ hD hk hld
  obtain ⟨_,_,xv,xa,xb,e1,e2⟩:=(k9 (l:=l) hD hk).2 (D.na k+x) (by rw [hsz,hx];lia)
  obtain ⟨v,hs,tk0,tk1,dn,hne,L1⟩:=FD I hk hX L
  refine CC (hD.del hX) ht hk hj hx hld (cD hX (hkw k (.head _)) bc) (by rw [hp.1];simp at hlen;lia) e1 (cD hX e2 f6) hfl R L1 λ h g t' pv' lv' pn' tp u t1 t2 tk L2=>?_
  have L3:=in1 L2 (aR 14 rfl λ p hp=>.tail _ (.tail _ (.tail _ (hfl p hp))))
  have pm:=(jm (l₁:=[(tp,aU #[.int (tkn:Int) t1,.int (k:Int) t2] 0)]) (l₂:=(i2,cr ol ((pre.length+1:Nat):Int))::(ol,ab (oA oth tq) on)::tl0)).append_left (gm w D (cg l k x) T tkn it pp io [en "pairs" k0 (.ref pp),en "k" k1 (.int (k:Int) tk),en "sizes" k2 zv,en "live" k5 vv,en "others" k8 ov] fn sl v9 v10 v13 v14 k4 k11 o92 o99 o151 (cg t k u) lv' (ps0.push (.ref tp)) pn' kl kn kw)
  have L4:=L3.perm pm
  rw [←bC] at L4
  obtain ⟨L5,hS,nS⟩:=L4.stay (aR 14 rfl λ p hp=>.tail _ (.tail _ (hfl p hp)))
  have hx1:l k - 1=x:=by lia
  have kp1:cx w P (kL P (D.pt k) (pdf k) (ax (pdf k) (D.pts (cg l k x) k) pv') (d8 hs tk0 0 tk1 dn)):=qr hX
  have kp2:=eU hS
  have kp:=kp1.trans kp2
  have hT1:qw w (kL P (D.pt k) (pdf k) (ax (pdf k) (D.pts (cg l k x) k) pv') (d8 hs tk0 0 tk1 dn)) D pdf (cg l k x):=hT.upd I hk (λ j hj=>c9 hj) (by rw [cK];lia)
  refine ih (pre++[k]) (by rw [hpre];simp) _ (cg l k x) (cg t k u) (prs++[(tkn,k)]) (ps0.push (.ref tp)) lv' pn' fn k1 (.int (k:Int) tk) h g t' (hD.kept kp) (hT1.add hS) ((hp.kept kp).push (cy nS hS (.head _))) (by simp at hlen⊢;lia) (λ k' hk'=>?_) (λ k' hk'=>?_) (by rw [List.length_append];exact L5) λ P' t'' ps' lv'' pn'' fn' k1' kvl' h g tk' q1 q2 q3 q4 q5=>?_
  ·rw [c9 (λ e:k'=k=>hkr (by rw [←e];exact hk'))];exact hpos k' (.tail _ hk')
  ·rw [tE (l:=l) (c9 (λ e:k'=k=>hkr (by rw [←e];exact hk')))]
   exact kp _ _ bc (hkw k' (.tail _ hk'))
  ·have e3:f8 l (k::r)=f8 (cg l k x) r:=by show f8 (cg l k (l k - 1)) r=_;rw [hx1]
   rw [e3] at hR
   refine hR P' t'' ps' lv'' pn'' fn' k1' kvl' h g tk' (kp.trans q1) q2 q3 ?_ q5
   rw [bC] at q4
   exact q4
end
section
variable {w:World}{P:KF}{H:Heap}{A:Around}
theorem IN {D:PD}{pdf:Nat→Addr}{l t:Nat→Nat}{T it pp lv pn fn:Nat}{fl:aq}{el:List Env}{o92 o99 o151:Obj}{k0 k1:Tok}{kvl vv:Value}{v9 v10 v13 v14:Option Value}{sl:iT}{ps0:VA}{prs:List (Nat×Nat)}(I:Al w H D pdf) (ht:tkn < D.n) (hO:jx D.n tkn oth) (hfl:∀ p∈fl,p∈tl0) (Q:Flow→Shared→Prop)
  (hD:c7 w P D) (hT:qw w P D pdf l) (hp:cq w P ps0 prs) (hlen:prs.length+oth.length≤1000) (hpos:∀ k∈oth,0 < l k) (hkw:∀ k∈oth,KP w P (kw k)=some (ab (D.pts l k) (kv k)))
  (L:ag (KP w P) H hh (bg D it pp fl) (gm w D l T tkn it pp io [en "pairs" k0 (.ref pp),en "k" k1 kvl,en "sizes" k2 zv,en "live" k5 vv,en "others" k8 (.ref ol)] fn sl v9 v10 v13 v14 k4 k11 o92 o99 o151 t lv ps0 pn kl kn kw++((ol,ab (oA oth tq) on)::tl0)) [])
  (hQ:∀ (P':KF) (t':Nat→Nat) (ps':VA) (lv' pn' fn':Nat) (k1':Tok) (kvl':Value) (h:Heap) (g:BG) (tk:Nat),cx w P P'→c7 w P' D→qw w P' D pdf (f8 l oth)→cq w P' ps' (prs++oth.map λ k=>(tkn,k))→
   ag (KP w P') H h (bg D it pp fl) (gm w D (f8 l oth) T tkn it pp io [en "pairs" k0 (.ref pp),en "k" k1' kvl',en "sizes" k2 zv,en "live" k5 vv,en "others" k8 (.ref ol)] fn' sl v9 v10 v13 v14 k4 k11 o92 o99 o151 t' lv' ps' pn' kl kn kw++tl0) []→Q .next ⟨h,g,dr,tk,os⟩):
  wpOwn (model pg w) (AQ (aQ D.N::el)) (ch D.N it) (execs [iN 18] (aQ D.N)) Q NE ⟨hh,gg,dr,tt,os⟩:=by
 obtain ⟨N,hN⟩:=bd hh
 obtain ⟨w,c,rfl⟩:=cB w
 refine wW [] (cY hD) (bp (by kernel_rfl)) L hN [U,dX,dX,.e,dX,.e,U,.s] λ ps=>?_
 refine gU AJ [1,2,3,4,5,6,7,8,9,10,11,12,13,14,15,0,16] 17 tl0 (λ W=>⟨Fg D.N N,true,none,[(D.1,aV W [en "pairs" k0 (.ref pp),en "k" k1 kvl,en "sizes" k2 zv,en "live" k5 vv,en "others" k8 (.ref ol)] fn sl),(it,io),(D.1+7,ak (.int ((↑T:Int)) k4)),(D.1+8,ak (.ref kl)),(D.1+9,aF v9),(D.1+10,aF v10),(D.1+11,ak (.int ((↑tkn:Int)) k11)),(D.1+13,aF v13),(D.1+14,aF v14),(D.5,ab (LX D l t) lv),(92,o92),(99,o99),(151,o151),(pp,ab ps0 pn),(kl,ab (bk D.n kw) kn),(N,cr ol 0),(ol,ab (oA oth tq) on)],[]⟩) rfl (by apply bq c;kernel_rfl) (by decide) (aR 14 rfl hfl) rfl rfl rfl rfl ae λ h g t2 L' _ md=>?_
 refine By I ht hO (λ p hp=>hfl p hp) _ oth [] rfl P l t prs ps0 lv pn fn k1 kvl h g t2 hD hT hp hlen hpos hkw L' λ P' t' ps' lv' pn' fn' k1' kvl' h g tk q1 q2 q3 q4 L2=>?_
 obtain ⟨M,hM⟩:=bd h
 refine ma (cz id Q NE) [] am hM [] L2 md λ ps1=>?_
 refine bt rfl [0,1,2,3,4,5,6,7,8,9,10,11,12,13,14] 15 tl0 (λ W=>⟨.ok .next,[(D.1,aV W [en "pairs" k0 (.ref pp),en "k" k1' kvl',en "sizes" k2 zv,en "live" k5 vv,en "others" k8 (.ref ol)] fn' sl),(it,io),(D.1+7,ak (.int ((↑T:Int)) k4)),(D.1+8,ak (.ref kl)),(D.1+9,aF v9),(D.1+10,aF v10),(D.1+11,ak (.int ((↑tkn:Int)) k11)),(D.1+13,aF v13),(D.1+14,aF v14),(D.5,ab (LX D (f8 l oth) t') lv'),(92,o92),(99,o99),(151,o151),(pp,ab ps' pn'),(kl,ab (bk D.n kw) kn)],[]⟩) rfl .next (by apply bq c;kernel_rfl) rfl (by decide) (aR 14 rfl hfl) ae λ h g t9 L'=>?_
 exact hQ P' t' ps' lv' pn' fn' k1' kvl' h g t9 q1 q2 q3 q4 L'
end
theorem bh {enc:α→Flow}{w:World}{P:KF}{cs:List (dQ w P)}{H:Heap}{F:List Addr}{n:Nat}{d:Drawn}{r:RS}{Q:α→Shared→Prop}(hR:R=cz enc Q E) (sel:List Nat) (k:Nat) (tl:aq) {vf:Result}{vo:aq}{vb:List Prop}(v:World→cI) (hw:(v w)=⟨vf,vo,vb⟩) (a:α) (e:(r.V.toRF,r.old,r.eqs,r.gl.all GenState.bare,r.doneV sel k)=((vc w P cs pf old H F n t₀ gg d os R).toRF,old,dup r.eqs,true,(cI.mk vf vo vb).x tl)) (hv:vf=.ok (enc a)) (inj:∀ a b,enc a=enc b→a=b) (nd:sel.Nodup) (hF:∀ a∈F,a∈(vo++tl).map (·.1)) (ho:∀ y∈vb,y)
  (x:∀ h (g:BG) t,ag (KP w P) H h F (vo++tl) old→Q a ⟨h,g,d,t,os⟩):r.FineOf (vc w P cs pf old H F n t₀ gg d os R):=ba sel k tl (λ _=>⟨vf,vo,vb⟩) rfl e nd hF ho λ h g t L=>by
 rw [hR,hv]
 intro b hb
 rw [←inj _ _ hb]
 exact x h g t L
noncomputable def pG:Option Value→Flow
 |none=>.next
 |some v=>.ret v
theorem p5:∀ a b:Option Value,pG a=pG b→a=b:=by
 intro a b h
 cases a<;>cases b<;>first|rfl|(cases h;done)|exact congrArg some (Flow.ret.inj h)
noncomputable def qD:Unit→Flow:=λ _=>.next
theorem qN:∀ a b:Unit,qD a=qD b→a=b:=λ _ _ _=>rfl
theorem CA (O:V.toRF.Ok) {A:Around}{c:Code}{it:Value}{Q:Option Value→Shared→Prop}(hR:V.R=cz pG Q E) {own:aq}{h:Heap}(L:ag V.K V.H h V.F own old) (hn:h.objs.size=V.n) (hs:List Hn)
  (x:∀ ps,(oD pG V hs A c (PySem.W.ZFast.zw9404975358583537561 it) own old ps).FineOf V):wpOwn (model V.prog V.w) A c (pyNext it) Q E ⟨h,V.gg,V.d,V.t₀,V.os⟩:=by
 rw [PySem.W.ZFast.ze9404975358583537561]
 exact dj pG O hs hR L hn x
theorem w2 {w:World}{P:KF}{H:Heap}{F:List Addr}{n:Nat}{d:Drawn}(cs:List (dQ w P)) (hp:∀ p∈pf,KP w P p.1=some p.2) {A:Around}{c:Code}{it:Value}{Q:Option Value→Shared→Prop}{own:aq}{h:Heap}(L:ag (KP w P) H h F own old) (hn:h.objs.size=n) (hs:List Hn)
 (x:∀ ps,(oD pG (vc w P cs pf old H F n t₀ gg d os (cz pG Q E)) hs A c (PySem.W.ZFast.zw9404975358583537561 it) own old ps).FineOf (vc w P cs pf old H F n t₀ gg d os (cz pG Q E))):wpOwn (model pg w) A c (pyNext it) Q E ⟨h,gg.1,d,t₀,os⟩:=CA (cR hp) rfl L hn hs x
theorem Ec (O:V.toRF.Ok) {A:Around}{c:Code}{v:Value}{Q:Unit→Shared→Prop}(hR:V.R=cz qD Q E) {own:aq}{h:Heap}(L:ag V.K V.H h V.F own old) (hn:h.objs.size=V.n) (hs:List Hn)
  (x:∀ ps,(oD qD V hs A c (PySem.W.ZFast.zw17772580674575903948 tg env v) own old ps).FineOf V):wpOwn (model V.prog V.w) A c (assign tg env v) Q E ⟨h,V.gg,V.d,V.t₀,V.os⟩:=by
 rw [PySem.W.ZFast.ze17772580674575903948]
 exact dj qD O hs hR L hn x
theorem yl {w:World}{P:KF}{H:Heap}{F:List Addr}{n:Nat}{d:Drawn}(cs:List (dQ w P)) (hp:∀ p∈pf,KP w P p.1=some p.2) {A:Around}{c:Code}{v:Value}{Q:Unit→Shared→Prop}{own:aq}{h:Heap}(L:ag (KP w P) H h F own old) (hn:h.objs.size=n) (hs:List Hn)
 (x:∀ ps,(oD qD (vc w P cs pf old H F n t₀ gg d os (cz qD Q E)) hs A c (PySem.W.ZFast.zw17772580674575903948 tg env v) own old ps).FineOf (vc w P cs pf old H F n t₀ gg d os (cz qD Q E))):wpOwn (model pg w) A c (assign tg env v) Q E ⟨h,gg.1,d,t₀,os⟩:=Ec (cR hp) rfl L hn hs x
section
variable {w:World}{P:KF}{H:Heap}{A:Around}
theorem At {D:PD}{F:List Addr}{T it n:Nat}{frO:Obj}{v7:Option Value}{tl:aq}{el:List Env}(hT:T < n) (hF:∀ a∈F,a∈([(D.N,frO),(it,c8 T ((n:Int) - T) 1),(D.N+7,aF v7)]++tl).map (·.1)) (R:RP)
  (L:ag (KP w P) H hh F ([(D.N,frO),(it,c8 T ((n:Int) - T) 1),(D.N+7,aF v7)]++tl) [])
  (hQ:∀ (h:Heap) (g:BG) (t':Nat) (k4:Tok),ag (KP w P) H h F ([(D.N,frO),(it,c8 (T+1:Nat) ((n:Int) - (T+1:Nat)) 1),(D.N+7,ak (.int (T:Int) k4))]++tl) []→
   wpOwn (model pg w) (AQ (aQ D.N::el)) (ch D.N it) (execs (bA i7) (aQ D.N)) (λ f s₃=>match f with
    |.next|.cont=>codeAny (model pg w) (AQ (aQ D.N::el)) (ch D.N it) R s₃
    |.brk=>R (.ok .next) s₃
    |.ret v=>R (.ok (.ret v)) s₃) NE ⟨h,g,dr,t',os⟩):
  codeAny (model pg w) (AQ (aQ D.N::el)) (ch D.N it) R ⟨hh,gg,dr,tt,os⟩:=by
 obtain ⟨N,hN⟩:=bd hh
 obtain ⟨w,c,rfl⟩:=cB w
 refine jB ?_
 refine w2 [b9 T n] am L hN [ay,.e,ay,.c 0 [1]] λ ps=>?_
 refine bh rfl [0,1,2] 3 tl (λ W=>⟨.ok (.ret (.int ((↑T:Int)) ((ps 0).6 0))),[(D.1,frO),(it,kX (T+1) n),(D.1+7,aF v7)],[T < n]⟩) rfl (some (.int (T:Int) ((ps 0).as 0))) (by apply bq c;kernel_rfl) rfl p5 (by decide) hF (aa hT ae) λ h g t2 L2=>?_
 obtain ⟨M,hM⟩:=bd h
 refine yl [] am L2 hM [aj,aj] λ ps1=>?_
 refine bh rfl [0,1,2] 3 tl (λ W=>⟨.ok .next,[(D.1,frO),(it,kX (T+1) n),(D.1+7,ak (.int ((↑T:Int)) ((ps 0).6 0)))],[]⟩) rfl () (by apply bq c;kernel_rfl) rfl qN (by decide) hF ae λ h g t3 L3=>?_
 exact hQ h g t3 _ L3
end
noncomputable def rx (x:Nat):List Nat→List Nat
 |[]=>[x]
 |y::l=>match Nat.ble y x with
  |true=>x::y::l
  |false=>y::rx x l
noncomputable def ic:List Nat→List Nat
 |[]=>[]
 |x::l=>rx x (ic l)
noncomputable def fK:List Nat→Nat
 |[]=>0
 |x::l=>x+fK l
noncomputable def cV (k x:Nat):Nat:=match Nat.ble k x with|true=>k|false=>x
noncomputable def qB:Nat→(Nat→Bool)→Bool
 |0,_=>true
 |n+1,p=>match p n with
  |true=>qB n p
  |false=>false
noncomputable def HK (row:List Nat):Bool:=match qB row.length (λ i=>Nat.ble (fK (row.take (i+1))) ((i+1) * i+fK ((row.drop (i+1)).map (cV (i+1))))) with
 |true=>Nat.beq (fK row % 2) 0
 |false=>false
noncomputable def hY (d:List Nat):Bool:=HK (ic d)
noncomputable def DQ:Nat→Nat→(List Nat→Bool)→Bool
 |0,_,p=>p []
 |k+1,m,p=>qB (m+1) λ x=>DQ k x λ l=>p (x::l)
noncomputable def vU:List Nat→Bool
 |[]=>false
 |x::l=>match x with|0=>true|_+1=>vU l
noncomputable def Ac (t:Nat) (s:List Nat):Bool:=match vU (s.take t) with
 |true=>!(hY (t::s))
 |false=>(hY (t::s)==hY (0::((s.take t).map Nat.pred++s.drop t)))
noncomputable def CP (m:Nat):Bool:=DQ m m λ s=>qB m λ t=>Ac (t+1) s
theorem IR:CP 4=true:=by decide+kernel
theorem I2:CP 5=true:=by decide+kernel
theorem jU:∀ {n:Nat}{p:Nat→Bool},qB n p=true→∀ k,k < n→p k=true
 |0,_,_,k,hk=>by lia
 |n+1,p,h,k,hk=>by
  unfold qB at h
  split at h
  ·rename_i hp
   by_cases e:k=n
   ·rw [e];exact hp
   ·exact jU h k (by lia)
  ·cases h
theorem oi:∀ {k m:Nat}{p:List Nat→Bool},DQ k m p=true→∀ s:List Nat,s.length=k→s.Pairwise (·≥·)→(∀ x∈s,x≤m)→p s=true
 |0,m,p,h,s,hl,_,_=>by rw [List.length_eq_zero_iff.mp hl];exact h
 |k+1,m,p,h,s,hl,hp,hm=>by
  induction s with
  |nil=>cases hl
  |cons x s=>
   have h1:=jU h x (by have:=hm x (.head _);lia)
   have hp':=List.pairwise_cons.mp hp
   exact oi h1 s (by simpa using hl) hp'.2 λ y hy=>hp'.1 y hy
theorem ki (x:Nat):∀ l:List Nat,(rx x l).Perm (x::l)
 |[]=>.refl _
 |y::l=>by
  unfold rx
  split
  ·exact .refl _
  ·exact ((ki x l).cons y).trans (.swap _ _ _)
theorem fQ:∀ l:List Nat,(ic l).Perm l
 |[]=>.refl _
 |x::l=>(ki x _).trans ((fQ l).cons x)
theorem kI (x:Nat):∀ l:List Nat,l.Pairwise (·≥·)→(rx x l).Pairwise (·≥·)
 |[],_=>by unfold rx;simp
 |y::l,h=>by
  unfold rx
  split
  ·rename_i hb
   have hb:=bp hb
   refine List.pairwise_cons.mpr ⟨λ z hz=>?_,h⟩
   rcases bI.mp hz with rfl|hz
   ·exact hb
   ·have:=(List.pairwise_cons.mp h).1 z hz;lia
  ·rename_i hb
   have hb:¬ y≤x:=λ c=>by rw [mV c] at hb;cases hb
   have h':=List.pairwise_cons.mp h
   refine List.pairwise_cons.mpr ⟨λ z hz=>?_,kI x l h'.2⟩
   rcases bI.mp ((ki x l).mem_iff.mp hz) with rfl|hz
   ·lia
   ·exact h'.1 z hz
theorem fw:∀ l:List Nat,(ic l).Pairwise (·≥·)
 |[]=>by unfold ic;simp
 |x::l=>kI x _ (fw l)
theorem qy:∀ {l l':List Nat},l.Perm l'→l.Pairwise (·≥·)→l'.Pairwise (·≥·)→l=l':=by
 intro l
 induction l with
 |nil=>intro l' p _ _;exact (List.nil_perm.mp p).symm
 |cons x l ih=>
  intro l' p h h'
  cases l' with
  |nil=>exact absurd p.length_eq (by simp)
  |cons y l'=>
   have hx:x∈y::l':=p.mem_iff.mp (.head _)
   have hy:y∈x::l:=p.mem_iff.mpr (.head _)
   have e:x=y:=by
    have h1:x≤y:=by
     rcases bI.mp hx with e|hx
     ·lia
     ·exact (List.pairwise_cons.mp h').1 x hx
    have h2:y≤x:=by
     rcases bI.mp hy with e|hy
     ·lia
     ·exact (List.pairwise_cons.mp h).1 y hy
    lia
   subst e
   rw [ih (List.perm_cons x|>.mp p) (List.pairwise_cons.mp h).2 (List.pairwise_cons.mp h').2]
theorem lF {l l':List Nat}(p:l.Perm l'):hY l=hY l':=by
 unfold hY
 rw [qy ((fQ l).trans (p.trans (fQ l').symm)) (fw _) (fw _)]
theorem lz:∀ {l:List Nat},vU l=true↔0∈l
 |[]=>by simp [vU]
 |0::l=>by simp [vU]
 |(x+1)::l=>by
  have:=lz (l:=l)
  simp [vU,this]
theorem As {m t:Nat}{s:List Nat}(hm:m=4∨m=5) (hl:s.length=m) (hs:s.Pairwise (·≥·)) (hb:∀ x∈s,x≤m) (ht:0 < t) (ht2:t≤m):
  (0∈s.take t→hY (t::s)=false)∧(0∉s.take t→hY (0::((s.take t).map Nat.pred++s.drop t))=hY (t::s)):=by
 have z:Ac t s=true:=by
  obtain ⟨u,rfl⟩:∃ u,t=u+1:=⟨t - 1,by lia⟩
  rcases hm with rfl|rfl
  ·exact jU (oi IR s hl hs hb) u (by lia)
  ·exact jU (oi I2 s hl hs hb) u (by lia)
 unfold Ac at z
 split at z
 ·rename_i h0
  exact ⟨λ _=>by simpa using z,λ h=>absurd (lz.mp h0) h⟩
 ·rename_i h0
  refine ⟨λ h=>?_,λ _=>?_⟩
  ·rw [lz.mpr h] at h0;cases h0
  ·exact (beq_iff_eq.mp z).symm
noncomputable def gk (k:Nat):List (Nat×Nat)→Nat
 |[]=>0
 |p::l=>(if p.1=k then 1 else 0)+(if p.2=k then 1 else 0)+gk k l
theorem pD (k:Nat):∀ (a b:List (Nat×Nat)),gk k (a++b)=gk k a+gk k b
 |[],b=>by simp [gk]
 |p::a,b=>by simp only [List.cons_append,gk,pD k a b];lia
theorem tI {t k:Nat}:∀ {o:List Nat},t∉o→o.Nodup→gk k (o.map λ j=>(t,j))=(if t=k then o.length else 0)+(if k∈o then 1 else 0)
 |[],_,_=>by simp [gk]
 |j::o,h,nd=>by
  have nd':=List.nodup_cons.mp nd
  have ih:=tI (k:=k) (o:=o) (λ c=>h (.tail _ c)) nd'.2
  simp only [List.map_cons,gk,ih,List.length_cons,bI]
  by_cases e1:t=k
  ·subst e1
   have h1:¬ j=t:=λ c=>h (by rw [c];exact .head _)
   have h2:¬ t=j:=λ c=>h1 c.symm
   have h3:t∉o:=λ c=>h (.tail _ c)
   simp [h1,h2,h3];lia
  ·by_cases e2:j=k
   ·subst e2;simp [e1,nd'.1]
   ·have e3:¬ k=j:=λ c=>e2 c.symm
    simp [e1,e2,e3]
theorem lH:∀ {o:List Nat}{l:Nat→Nat}{k:Nat},o.Nodup→f8 l o k=if k∈o then l k - 1 else l k
 |[],l,k,_=>by simp [f8]
 |j::o,l,k,nd=>by
  have nd':=List.nodup_cons.mp nd
  show f8 (cg l j (l j - 1)) o k=_
  rw [lH nd'.2]
  by_cases e:k=j
  ·subst e;simp [nd'.1,cK]
  ·simp [e,c9 e]
theorem B1 {b b':Nat→Bool}{t:Nat}:∀ {n:Nat},(∀ k,k < n→b' k=true→b k=true)→t < n→b t=true→b' t=false→(aB b' n).length+1≤(aB b n).length:=by
 have le:∀ {n:Nat},(∀ k,k < n→b' k=true→b k=true)→(aB b' n).length≤(aB b n).length:=by
  intro n
  induction n with
  |zero=>intro _;exact Nat.le_refl _
  |succ n ih=>
   intro h
   have:=ih λ k hk=>h k (by lia)
   unfold aB at this⊢
   rw [List.range_succ,List.filter_append,List.filter_append,List.length_append,List.length_append]
   have h1:=h n (by lia)
   cases hb':b' n<;>cases hb:b n<;>simp [List.filter_cons,hb,hb']<;>first|lia|(rw [h1 hb'] at hb;cases hb)
 intro n
 induction n with
 |zero=>intro _ h;lia
 |succ n ih=>
  intro h ht h1 h2
  have e:∀ c:Nat→Bool,(aB c (n+1)).length=(aB c n).length+(if c n then 1 else 0):=λ c=>by
   unfold aB
   rw [List.range_succ,List.filter_append,List.length_append]
   cases hc:c n<;>simp [List.filter_cons,hc]
  rw [e,e]
  by_cases q:t=n
  ·subst q
   have:=le (n:=t) λ k hk=>h k (by lia)
   simp [h1,h2];lia
  ·have:=ih (λ k hk=>h k (by lia)) (by lia) h1 h2
   have h3:=h n (by lia)
   cases hb':b' n<;>cases hb:b n<;>simp<;>first|lia|(rw [h3 hb'] at hb;cases hb)
noncomputable def oV (D:PD) (l:Nat→Nat) (num:Int) (tkn:Nat):List Nat:=(cA (dW D.m num (λ k=>-(l k:Int)) (oN D tkn) (cN D tkn))).toList.map (oN D tkn)
theorem lw (D:PD) (l:Nat→Nat) (num:Int) (tkn:Nat):eK D l num tkn=(oV D l num tkn).take (l tkn):=rfl
theorem s0:∀ {n t:Nat},t < n→(List.range n).filter (λ k=>!gq t k)=[t]:=by
 intro n
 induction n with
 |zero=>intro t h;lia
 |succ n ih=>
  intro t h
  rw [List.range_succ,List.filter_append]
  by_cases e:t=n
  ·subst e
   have h1:(List.range t).filter (λ k=>!gq t k)=[]:=by
    refine List.filter_eq_nil_iff.mpr λ a ha=>?_
    have:a < t:=List.mem_range.mp ha
    unfold gq
    cases q:Nat.beq a t with
    |false=>simp
    |true=>have:=fW q;lia
   have h2:gq t t=false:=by unfold gq;rw [Nat.beq_refl];rfl
   rw [h1];simp [List.filter_cons,h2]
  ·have h1:gq t n=true:=by
    unfold gq
    cases q:Nat.beq n t with
    |false=>rfl
    |true=>have:=fW q;lia
   rw [ih (by lia)];simp [List.filter_cons,h1]
theorem sG {n t:Nat}(h:t < n):(List.range n).Perm (t::aB (gq t) n):=by
 have z:=List.filter_append_perm (gq t) (List.range n)
 rw [s0 h] at z
 exact z.symm.trans jm
section
variable {w:World}{P:KF}{D:PD}{l:Nat→Nat}
theorem Eb (D:PD) (tkn:Nat):(List.range (cN D tkn)).map (oN D tkn)=aB (gq tkn) D.n:=by
 apply du
 ·simp
 ·intro i h1 h2
  simp [oN,hW,h2]
theorem lp (h:D.m=4∨D.m=5) (ht:tkn < D.n):(oV D l num tkn).Perm (aB (gq tkn) D.n):=by
 obtain ⟨_,s2,_⟩:=iy (ks:=dW D.m num (λ k=>-(l k:Int)) (oN D tkn) (cN D tkn)) (by rw [dq];exact EF h ht) gw
 rw [dq] at s2
 have:=s2.map (oN D tkn)
 rw [Eb] at this
 exact this
theorem kG {r:α→α→Prop}(tr:∀ a b c,r a b→r b c→r a c):∀ {l:List α},(∀ (k:Nat) (h:k+1 < l.length),r (l[k]'(by lia)) l[k+1])→l.Pairwise r
 |[],_=>.nil
 |[a],_=>by simp
 |a::b::l,h=>by
  have ih:(b::l).Pairwise r:=kG tr λ k hk=>by have:=h (k+1) (by simp at hk⊢;lia);simpa using this
  have h0:r a b:=by have:=h 0 (by simp);simpa using this
  refine List.pairwise_cons.mpr ⟨λ c hc=>?_,ih⟩
  rcases bI.mp hc with rfl|hc
  ·exact h0
  ·exact tr _ _ _ h0 ((List.pairwise_cons.mp ih).1 c hc)
theorem Cg (h:D.m=4∨D.m=5) (ht:tkn < D.n):((oV D l num tkn).map l).Pairwise (·≥·):=by
 obtain ⟨_,s2,s3⟩:=iy (ks:=dW D.m num (λ k=>-(l k:Int)) (oN D tkn) (cN D tkn)) (by rw [dq];exact EF h ht) gw
 rw [dq] at s2 s3
 have hl:=s2.length_eq
 rw [List.length_range] at hl
 refine kG (r:=λ x1 x2:Nat=>x1≥x2) (λ a b c h1 h2=>cP h2 h1) λ k hk=>?_
 have hk':k+1 < cN D tkn:=by
  simp [oV] at hk;simp at hl;lia
 have z:=s3 k hk'
 have hm:∀ j,j < cN D tkn→(cA (dW D.m num (λ k=>-(l k:Int)) (oN D tkn) (cN D tkn))).getD j 0 < cN D tkn:=λ j hj=>by
  have hj':j < (cA (dW D.m num (λ k=>-(l k:Int)) (oN D tkn) (cN D tkn))).size:=by simp at hl;omega
  have e:(cA (dW D.m num (λ k=>-(l k:Int)) (oN D tkn) (cN D tkn))).getD j 0=(cA (dW D.m num (λ k=>-(l k:Int)) (oN D tkn) (cN D tkn)))[j]:=by simp [Array.getD,hj']
  rw [e]
  exact List.mem_range.mp (s2.mem_iff.mp (Array.getElem_mem_toList hj'))
 unfold dE at z
 rw [lL (hm k (by lia)),lL (hm (k+1) hk'),mv] at z
 have gs:∀ j (hj:j < ((oV D l num tkn).map l).length),((oV D l num tkn).map l)[j]=l (oN D tkn ((cA (dW D.m num (λ k=>-(l k:Int)) (oN D tkn) (cN D tkn))).getD j 0)):=λ j hj=>by
  have hj':j < (cA (dW D.m num (λ k=>-(l k:Int)) (oN D tkn) (cN D tkn))).size:=by simpa [oV] using hj
  simp [oV,Array.getD,hj']
 rw [gs,gs]
 dsimp only at z
 show _≤_
 omega
theorem rF (h:D.m=4∨D.m=5) (ht:tkn < D.n):(oV D l num tkn).length=D.m:=by
 have h1:=(lp (l:=l) (num:=num) h ht).length_eq
 have h2:=CL D.n tkn ht
 have h3:D.n=D.m+1:=rfl
 lia
theorem oH (h:D.m=4∨D.m=5) (ht:tkn < D.n) {k:Nat}:k∈oV D l num tkn↔k < D.n∧k≠tkn:=by
 rw [(lp h ht).mem_iff,jH]
 unfold gq
 constructor
 ·rintro ⟨h1,h2⟩
  refine ⟨h1,λ e=>?_⟩
  rw [e,Nat.beq_refl] at h2;cases h2
 ·rintro ⟨h1,h2⟩
  refine ⟨h1,?_⟩
  cases q:Nat.beq k tkn with
  |false=>rfl
  |true=>exact absurd (fW q) h2
theorem C4 (h:D.m=4∨D.m=5) (ht:tkn < D.n):(oV D l num tkn).Nodup:=(lp h ht).nodup_iff.mpr (List.nodup_range.filter _)
theorem xh (h:D.m=4∨D.m=5) (ht:tkn < D.n):jx D.n tkn (eK D l num tkn):=by
 rw [lw]
 refine ⟨λ k hk=>((oH h ht).mp (List.mem_of_mem_take hk)).1,λ k hk=>((oH h ht).mp (List.mem_of_mem_take hk)).2,(C4 h ht).sublist (List.take_sublist _ _),?_⟩
 have:=rF (l:=l) (num:=num) h ht
 rw [List.length_take];lia
theorem Cn (h:D.m=4∨D.m=5) (ht:tkn < D.n) (hl:l tkn≤D.m):(eK D l num tkn).length=l tkn:=by
 rw [lw,List.length_take,rF h ht];lia
theorem lX (h:D.m=4∨D.m=5) (ht:tkn < D.n) (f:Nat→Nat):((List.range D.n).map f).Perm (f tkn::(oV D l num tkn).map f):=by
 have:=(sG ht).trans ((lp (l:=l) (num:=num) h ht).symm.cons tkn)
 have:=this.map f
 rw [List.map_cons] at this
 exact this
theorem Bh (h:D.m=4∨D.m=5) (ht:tkn < D.n) (hl:∀ k,k < D.n→l k≤D.m) (hpos:0 < l tkn):
  (∀ k∈eK D l num tkn,l k=0→hY ((List.range D.n).map l)=false)∧
  ((∀ k∈eK D l num tkn,0 < l k)→hY ((List.range D.n).map (f8 (cg l tkn 0) (eK D l num tkn)))=hY ((List.range D.n).map l)):=by
 have hs:=Cg (l:=l) (num:=num) h ht
 have hlen:((oV D l num tkn).map l).length=D.m:=by rw [fH,rF h ht]
 have hb:∀ x∈(oV D l num tkn).map l,x≤D.m:=λ x hx=>by
  obtain ⟨k,hk,rfl⟩:=aY.mp hx
  exact hl k ((oH h ht).mp hk).1
 obtain ⟨z1,z2⟩:=As h hlen hs hb hpos (hl tkn ht)
 have e1:((oV D l num tkn).map l).take (l tkn)=(eK D l num tkn).map l:=by rw [lw,List.map_take]
 rw [e1] at z1 z2
 refine ⟨λ k hk h0=>?_,λ hp=>?_⟩
 ·rw [lF (lX (l:=l) (num:=num) h ht l)]
  exact z1 (aY.mpr ⟨k,hk,h0⟩)
 ·have hO:=xh (l:=l) (num:=num) h ht
  have hd:∀ k,f8 (cg l tkn 0) (eK D l num tkn) k=if k∈eK D l num tkn then cg l tkn 0 k - 1 else cg l tkn 0 k:=λ k=>lH hO.nd
  rw [lF (lX (l:=l) (num:=num) h ht _),lF (lX (l:=l) (num:=num) h ht l),←z2 λ h0=>by
   obtain ⟨k,hk,h0⟩:=aY.mp h0
   have:=hp k hk;lia]
  congr 2
  ·rw [hd,if_neg λ c=>hO.ne _ c rfl,cK]
  ·have e3:(oV D l num tkn).map (f8 (cg l tkn 0) (eK D l num tkn))=(eK D l num tkn).map (f8 (cg l tkn 0) (eK D l num tkn))++((oV D l num tkn).drop (l tkn)).map (f8 (cg l tkn 0) (eK D l num tkn)):=by
    rw [←aW]
    congr 1
    rw [lw,List.take_append_drop]
   rw [e3,←List.map_drop]
   congr 1
   ·rw [List.map_map]
    refine List.map_congr_left λ k hk=>?_
    rw [hd,if_pos hk,c9 (hO.ne k hk)];rfl
   ·refine List.map_congr_left λ k hk=>?_
    have nd:=C4 (l:=l) (num:=num) h ht
    rw [←List.take_append_drop (l tkn) (oV D l num tkn)] at nd
    have hno:k∉eK D l num tkn:=λ c=>(bX.mp nd).2.2 k c k hk rfl
    rw [hd,if_neg hno,c9 ((oH h ht).mp (List.mem_of_mem_drop hk)).2]
end
noncomputable def lG (k:Nat):Bool→Str
 |true=>" "
 |false=>oS k
noncomputable def Fk (nail:Bool) (k:Nat) (bs:List Bool):List Str:=match nail with
 |true=>""::bs.map (lG k)
 |false=>bs.map (lG k)
noncomputable def G0 (nail:Bool) (k m:Nat) (bs:List Bool):Bool:=
 JoinOk "" (Fk nail k bs)&&Nat.beq (Builtin.Str.glued "" (Fk nail k bs)).length m&&Nat.ble (d4 (Builtin.Str.glued "" (Fk nail k bs))).length 1000&&
  (((d4 (Builtin.Str.glued "" (Fk nail k bs))).cps.toList==("":Str).cps.toList)==(Nat.beq m 0||fO (Builtin.Str.glued "" (Fk nail k bs))))
noncomputable def lx (m:Nat):Bool:=(List.range 6).all λ k=>f7 m (G0 true k m)&&f7 m (G0 false k m)
theorem IC:lx 0=true:=by decide+kernel
theorem IK:lx 1=true:=by decide+kernel
theorem IM:lx 2=true:=by decide+kernel
theorem IV:lx 3=true:=by decide+kernel
theorem IU:lx 4=true:=by decide+kernel
theorem I0:lx 5=true:=by decide+kernel
theorem EH {nail:Bool}{k m:Nat}{bs:List Bool}(hk:k < 6) (hm:m < 6) (hb:bs.length=m):G0 nail k m bs=true:=by
 have z:lx m=true:=by
  match m,hm with
  |0,_=>exact IC
  |1,_=>exact IK
  |2,_=>exact IM
  |3,_=>exact IV
  |4,_=>exact IU
  |5,_=>exact I0
 have y:=List.all_eq_true.mp z k (List.mem_range.mpr hk)
 simp only [Bool.and_eq_true] at y
 cases nail
 ·exact eB m _ y.2 bs hb
 ·exact eB m _ y.1 bs hb
noncomputable def nb (look:Int) (j:Nat):Bool:=(look.fdiv (2 ^ ((j:Int)+1).toNat)).fmod 2==1
theorem qG (look:Int) (k j:Nat):Builtin.Str.glued "" [(eQ look (oS k) j).1,(eQ look (oS k) j).2]=lG k (nb look j):=by
 unfold eQ nb
 cases (look.fdiv (2 ^ ((j:Int)+1).toNat)).fmod 2==1
 ·simp only [Bool.false_eq_true,if_false];rw [sV];rfl
 ·simp only [if_true];rw [sV];rfl
theorem Bp (b:Bool) (look:Int) (k m:Nat):jn (jZ b look (oS k)) (b.toNat+m)=Fk b k ((List.range m).map (nb look)):=by
 unfold jn
 induction b with
 |false=>
  show (List.range (0+m)).map _=((List.range m).map (nb look)).map (lG k)
  rw [Nat.zero_add,List.map_map]
  refine List.map_congr_left λ j _=>?_
  exact qG look k j
 |true=>
  show (List.range (1+m)).map _=("":Str)::((List.range m).map (nb look)).map (lG k)
  rw [Nat.add_comm,List.range_succ_eq_map,List.map_cons,List.map_map,List.map_map]
  congr 1
  refine List.map_congr_left λ j _=>?_
  exact qG look k j
theorem yA {b:Bool}{look:Int}{k m:Nat}(hk:k < 6) (hm:m < 6):kP (b.toNat+m) (jZ b look (oS k)) m:=by
 have z:=EH (nail:=b) (k:=k) (m:=m) (bs:=(List.range m).map (nb look)) hk hm (by simp)
 unfold G0 at z
 simp only [Bool.and_eq_true] at z
 rw [←Bp] at z
 obtain ⟨⟨⟨z1,z2⟩,z3⟩,z4⟩:=z
 refine ⟨λ i _=>?_,z1,fW z2,bp z3,by simpa [fk] using z4⟩
 induction b with
 |false=>
  have:=iG look k i
  show (eQ look (oS k) i).1.length+(eQ look (oS k) i).2.length≤1000
  lia
 |true=>
  induction i with
  |zero=>exact Nat.zero_le _
  |succ i=>
   have:=iG look k i
   show (eQ look (oS k) i).1.length+(eQ look (oS k) i).2.length≤1000
   lia
theorem ye {w:World}{P:KF}{D:PD}{l:Nat→Nat}{k:Nat}(hD:c7 w P D) (hk:k < D.n) (hl:l k≤D.d k):kP (D.pts l k).size (D.pc k) (l k):=by
 rw [eZ hD hk hl]
 exact yA (by have:=n6 hD;lia) (Nat.lt_of_le_of_lt hl (hD.d6 k hk))
section
variable {w:World}{P:KF}{H:Heap}{A:Around}
noncomputable def fh (o151:Obj) (cl:aq):Prop:=(o151=dk #[]∧cl=[])∨∃ ac co,wt co∧cl=[(ac,co)]∧o151=dk #[.int 121 0,.int 36 0,.ref ac]
structure PJ (D:PD) (T:Nat) (l:Nat→Nat) (prs:List (Nat×Nat)):Prop where
 eg:hY ((List.range D.n).map l)=hY ((List.range D.n).map D.d)
 ct:∀ k,k < D.n→l k+gk k prs=D.d k
 lv:(aB (λ k=>Nat.blt 0 (l k)) D.n).length+T≤D.n
 pl:prs.length≤5 * T
 pm:∀ p∈prs,p.1 < D.n∧p.2 < D.n
noncomputable def I3 (later:Bool) (er:List (Str×Tok×Value)):Prop:=match later with
 |false=>er=[]
 |true=>∃ k2 zv k5 vv k8 ov,er=[en "sizes" k2 zv,en "live" k5 vv,en "others" k8 ov]
noncomputable abbrev H8 (w:World) (D:PD) (l:Nat→Nat) (T it pp:Nat) (k0 k1:Tok) (kvl:Value) (er:List (Str×Tok×Value)) (fn:Nat) (sl:iT) (v7 v8 v9 v10 v11 v13 v14:Option Value) (o92 o99 o151:Obj) (t:Nat→Tok) (lv:Nat) (ps0:VA) (pn:Nat):aq:=
 [(D.N,aV w (en "pairs" k0 (.ref pp)::en "k" k1 kvl::er) fn sl),(it,c8 T (((D.n+1:Nat):Int) - T) 1),(D.N+7,aF v7),(D.N+8,aF v8),(D.N+9,aF v9),(D.N+10,aF v10),(D.N+11,aF v11),(D.N+13,aF v13),(D.N+14,aF v14),(D.lf,ab (LX D l t) lv),(92,o92),(99,o99),(151,o151),(pp,ab ps0 pn)]
inductive GY (w:World) (H:Heap) (D:PD) (pdf:Nat→Addr) (el:List Env) (P0:KF) (it pp:Addr) (fl:aq) (T:Nat) (later:Bool) (h:Heap):Prop
 |mk (P:KF) (l:Nat→Nat) (prs:List (Nat×Nat)) (k0 k1:Tok) (kvl:Value) (er:List (Str×Tok×Value)) (fn:Nat) (sl:iT) (v7 v8 v9 v10 v11 v13 v14:Option Value) (o92 o99 o151:Obj) (t:Nat→Tok) (lv:Nat) (ps0:VA) (pn:Nat) (cl fl':aq) (a1:cx w P0 P) (a2:c7 w P D) (a3:qw w P D pdf l) (a4:cq w P ps0 prs) (a5:PJ D T l prs) (a6:I3 later er) (a7:al 61 19 o92) (a8:al 64 32 o99) (a9:fh o151 cl) (b1:dP el fl') (b2:la fl' fl)
  (L:ag (KP w P) H h (bg D it pp fl') (H8 w D l T it pp k0 k1 kvl er fn sl v7 v8 v9 v10 v11 v13 v14 o92 o99 o151 t lv ps0 pn++(cl++fl')) [])
inductive B6 (w:World) (H:Heap) (D:PD) (el:List Env) (P0:KF) (it pp:Addr) (fl:aq) (b:Bool) (h:Heap):Prop
 |mk (P:KF) (prs:List (Nat×Nat)) (x0 x1 x2 x3 x4 x5 x6 x7 x8 x9 o92 o99 o151:Obj) (ps0:VA) (pn:Nat) (cl fl':aq) (a1:cx w P0 P) (a2:b=hY ((List.range D.n).map D.d)) (a3:b=true→∀ k,k < D.n→gk k prs=D.d k) (a4:∀ p∈prs,p.1 < D.n∧p.2 < D.n) (a5:prs.length≤50) (a6:cq w P ps0 prs) (a7:al 61 19 o92) (a8:al 64 32 o99) (a9:fh o151 cl) (b1:dP el fl') (b2:la fl' fl)
  (L:ag (KP w P) H h (bg D it pp fl') ([(D.N,x0),(it,x1),(D.N+7,x2),(D.N+8,x3),(D.N+9,x4),(D.N+10,x5),(D.N+11,x6),(D.N+13,x7),(D.N+14,x8),(D.lf,x9),(92,o92),(99,o99),(151,o151),(pp,ab ps0 pn)]++(cl++fl')) [])
noncomputable def u7 (w:World) (A:Around) (c:Code) (R:RP):Flow→Shared→Prop:=λ f s₃=>match f with
 |.next|.cont=>codeAny (model pg w) A c R s₃
 |.brk=>R (.ok .next) s₃
 |.ret v=>R (.ok (.ret v)) s₃
theorem v4 {n:Nat}(h:(aB fb n).length=0):∀ k,k < n→fb k=false:=λ k hk=>by
 cases q:fb k with
 |false=>rfl
 |true=>
  have:k∈aB fb n:=jH.mpr ⟨hk,q⟩
  rw [List.length_eq_zero_iff.mp h] at this;cases this
theorem Hq {x:Nat}(h:Nat.blt 0 x=false):x=0:=by
 induction x with
 |zero=>rfl
 |succ n=>
  have:Nat.blt 0 (n+1)=true:=mV (by lia)
  rw [this] at h;cases h
theorem FV {x:Nat}(h:Nat.blt 0 x=true):0 < x:=bp h
theorem BW {n:Nat}{l:Nat→Nat}(hn:n=5∨n=6) (h:∀ k,k < n→l k=0):hY ((List.range n).map l)=true:=by
 have e:(List.range n).map l=(List.range n).map λ _=>0:=List.map_congr_left λ k hk=>h k (List.mem_range.mp hk)
 rw [e]
 rcases hn with rfl|rfl<;>decide+kernel
section
variable {D:PD}{pdf:Nat→Addr}{l:Nat→Nat}{T it pp lv fn pn:Nat}{fl fl':aq}{el:List Env}{t tq:Nat→Nat}{co o92 o99:Obj}{sl:iT}{k0 k1:Tok}{kvl:Value}{ps0:VA}{prs:List (Nat×Nat)}{P0:KF}
theorem n56 (hD:c7 w P D):D.n=5∨D.n=6:=by have:=hD.n56;have e:D.n=D.m+1:=rfl;lia
theorem vP (I:Al w H D pdf) (hdm:∀ k,k < D.n→D.d k≤D.m) (hK:cx w P0 P) (hD:c7 w P D) (hT:qw w P D pdf l) (hp:cq w P ps0 prs) (hJ:PJ D T l prs) (hTn:T < D.n+1) (hkw:∀ j,j < D.n→KP w P (kw j)=some (ab (D.pts l j) (kv j)))
  (hfb:∀ k,k < D.n→Nat.blt 0 (l k)=fb k) (hgb:∀ k,k < D.n→Nat.beq (l k) 0=gb k) (h92:al 61 19 o92) (h99:al 64 32 o99) (hco:wt co) (hfr:dP el fl') (hff:la fl' fl) (hc:((aB fb D.n).length=0∧tkn=0)∨((aB fb D.n).length≠0∧tkn < D.n∧0 < l tkn)) (R:RP)
  (L:ag (KP w P) H hh (bg D it pp fl') (ed w D l fb gb T it pp (c8 (T+1:Nat) (((D.n+1:Nat):Int) - (T+1:Nat)) 1) [en "pairs" k0 (.ref pp),en "k" k1 kvl,en "sizes" k2 (.ref B.zl),en "live" k5 (.ref B.vl),en "others" k8 (.ref ol)] fn sl (ak (.int (tkn:Int) k11)) num k4 k6 o92 o99 (dk #[.int 121 0,.int 36 0,.ref ac]) t lv ps0 pn kw B++([(ac,co),(ol,ab (oA (eK D l num tkn) tq) on)]++fl')) [])
  (hNext:∀ h (g:BG) t',GY w H D pdf el P0 it pp fl (T+1) true h→codeAny (model pg w) (AQ (aQ D.N::el)) (ch D.N it) R ⟨h,g,dr,t',os⟩)
  (hRet:∀ b h (g:BG) t',B6 w H D el P0 it pp fl b h→R (.ok (.ret (.bool b))) ⟨h,g,dr,t',os⟩):
  wpOwn (model pg w) (AQ (aQ D.N::el)) (ch D.N it) (execs ([iN 15]++(Ff++[iN 18])) (aQ D.N)) (u7 w (AQ (aQ D.N::el)) (ch D.N it) R) NE ⟨hh,gg,dr,tt,os⟩:=by
 have hm:=hD.n56
 have hlm:∀ k,k < D.n→l k≤D.m:=λ k hk=>cP (hT.ld k hk) (hdm k hk)
 have hS:∀ k,k < D.n→kP (D.pts l k).size (D.pc k) (l k):=λ k hk=>ye hD hk (hT.ld k hk)
 have hP:=hT.pdp hD I
 have ht:tkn < D.n:=by
  rcases hc with ⟨_,rfl⟩|⟨_,h,_⟩
  ·exact Nat.succ_pos _
  ·exact h
 have hO:=xh (l:=l) (num:=num) hm ht
 have hlen:=Cn (num:=num) hm ht (hlm tkn ht)
 have hfl:∀ p∈fl',p∈(ac,co)::fl':=λ p hp=>.tail _ hp
 have htx:fh (dk #[.int 121 0,.int 36 0,.ref ac]) [(ac,co)]:=.inr ⟨ac,co,hco,rfl,rfl⟩
 have L0:=L.perm ((List.Perm.swap (ol,ab (oA (eK D l num tkn) tq) on) (ac,co) fl').append_left _)
 clear L
 have ret:∀ (b:Bool) (h:Heap) (g:BG) (t' fn':Nat) (es':List (Str×Tok×Value)) (o92' o99':Obj),b=hY ((List.range D.n).map D.d)→(b=true→∀ k,k < D.n→gk k prs=D.d k)→al 61 19 o92'→al 64 32 o99'→ag (KP w P) H h (bg D it pp fl') (ed w D l fb gb T it pp (c8 (T+1:Nat) (((D.n+1:Nat):Int) - (T+1:Nat)) 1) es' fn' sl (ak (.int (tkn:Int) k11)) num k4 k6 o92' o99' (dk #[.int 121 0,.int 36 0,.ref ac]) t lv ps0 pn kw B++((ac,co)::fl')) []→R (.ok (.ret (.bool b))) ⟨h,g,dr,t',os⟩:=by
  intro b h g t' fn' es' o92' o99' hb hct q1 q2 L
  refine hRet b h g t' ⟨P,prs,_,_,_,_,_,_,_,_,_,_,o92',o99',_,ps0,pn,[(ac,co)],fl',hK,hb,hct,hJ.pm,?_,hp,q1,q2,htx,hfr,hff,L.pickF [0,1,2,3,4,5,6,7,8,9,10,11,12,13] rfl (aR 14 rfl hfl)⟩
  have:=hJ.pl
  have:=n6 hD
  lia
 rcases hc with ⟨he,rfl⟩|⟨he,_,hpos⟩
 ·have hz:∀ k,k < D.n→l k=0:=λ k hk=>Hq ((hfb k hk).trans (v4 he k hk))
  have eo:eK D l num 0=[]:=by unfold eK;rw [hz 0 ht,List.take_zero]
  rw [eo] at L0 hO
  refine dY ?_
  refine Hm hD hO rfl he hP hkw hS h92 h99 hfl _ L0 λ h g t' fn' es' o92' o99' q1 q2 L1=>?_
  refine ret true h g t' fn' es' o92' o99' ?_ (λ _ k hk=>?_) q1 q2 L1
  ·rw [←hJ.eg];exact (BW (n56 hD) hz).symm
  ·have:=hJ.ct k hk
   rw [hz k hk] at this;lia
 ·obtain ⟨kwA,kwB⟩:=Bh (num:=num) hm ht hlm hpos
  cases hr:(eK D l num tkn).any gb with
  |true=>
   obtain ⟨k,hk,hg⟩:=List.any_eq_true.mp hr
   have hz:l k=0:=fW ((hgb k (hO.lt k hk)).trans hg)
   have hf:=kwA k hk hz
   cases eo:eK D l num tkn with
   |nil=>rw [eo] at hr;cases hr
   |cons a ot=>
    rw [eo] at L0 hO hr
    refine dY ?_
    refine HR hD hO hr he hP hkw hS h92 h99 hfl _ L0 λ h g t' fn' es' o92' o99' q1 q2 L1=>?_
    refine ret false h g t' fn' es' o92' o99' ?_ (λ e=>by cases e) q1 q2 L1
    rw [←hJ.eg];exact hf.symm
  |false=>
   have hpo:∀ k∈eK D l num tkn,0 < l k:=λ k hk=>by
    have h1:gb k=false:=by
     cases q:gb k with
     |false=>rfl
     |true=>rw [List.any_eq_true.mpr ⟨k,hk,q⟩] at hr;cases hr
    have h2:=(hgb k (hO.lt k hk)).trans h1
    cases q:l k with
    |zero=>rw [q] at h2;cases h2
    |succ x=>lia
   have hE:=kwB hpo
   generalize hoth:eK D l num tkn=oth at L0 hO hr hlen hpo hE
   cases oth with
   |nil=>simp at hlen;lia
   |cons a ot=>
    refine dY ?_
    refine HT hD hO hr he hfl _ L0 λ h g t1 L1=>?_
    refine dY ?_
    have hfl2:∀ p∈fl',p∈(ol,ab (oA (a::ot) tq) on)::(ac,co)::fl':=λ p hp=>.tail _ (.tail _ hp)
    have L2:=L1.pickF [0,1,2,3,4,5,6,7,8,9,10,11,12,13,14] rfl (aR 14 rfl hfl2)
    have hX:=hT.pt tkn ht
    obtain ⟨v,hs,tk0,tk1,dn,hne,L3⟩:=FD I ht hX L2
    refine IB (v9:=some (.ref B.ul)) (v10:=some (.ref B.bl)) (v13:=some (.int num k6)) (v14:=some (.ref B.tl)) (hD.del hX) ht (cD hX (hkw tkn ht) bc) (hT.ld tkn ht) hfl2 _ L3 λ h g t2 pv' lv' u L4=>?_
    have L5:=in1 L4 (aR 14 rfl hfl2)
    have kp:cx w P (kL P (D.pt tkn) (pdf tkn) (ax (pdf tkn) (D.pts (cg l tkn 0) tkn) pv') (d8 hs tk0 0 tk1 dn)):=qr hX
    have hT1:qw w (kL P (D.pt tkn) (pdf tkn) (ax (pdf tkn) (D.pts (cg l tkn 0) tkn) pv') (d8 hs tk0 0 tk1 dn)) D pdf (cg l tkn 0):=hT.upd I ht (λ j hj=>c9 hj) (by rw [cK];lia)
    refine IN (kv:=kv) I ht hO hfl _ (hD.kept kp) hT1 (hp.kept kp) ?_ (λ k hk=>?_) (λ k hk=>?_) L5 λ P' t' ps' lv'' pn' fn' k1' kvl' h g tk q1 q2 q3 q4 L6=>?_
    ·have:=hJ.pl;have:=n6 hD;have:=hO.le;lia
    ·rw [c9 (hO.ne k hk)];exact hpo k hk
    ·rw [tE (l:=l) (c9 (hO.ne k hk))]
     exact kp _ _ bc (hkw k (hO.lt k hk))
    ·have hd:∀ k,f8 (cg l tkn 0) (a::ot) k=if k∈a::ot then cg l tkn 0 k - 1 else cg l tkn 0 k:=λ k=>lH hO.nd
     have htn:tkn∉a::ot:=λ c=>hO.ne _ c rfl
     refine hNext h g tk ⟨P',f8 (cg l tkn 0) (a::ot),prs++(a::ot).map λ k=>(tkn,k),k0,k1',kvl',[en "sizes" k2 (.ref B.zl),en "live" k5 (.ref B.vl),en "others" k8 (.ref ol)],fn',sl,some (.int T k4),some (.ref B.kl),some (.ref B.ul),some (.ref B.bl),some (.int tkn k11),some (.int num k6),some (.ref B.tl),o92,o99,_,t',lv'',ps',pn',[(ac,co)],fl',(hK.trans kp).trans q1,q2,q3,q4,⟨hE.trans hJ.eg,λ k hk=>?_,?_,?_,?_⟩,⟨_,_,_,_,_,_,rfl⟩,h92,h99,htx,hfr,hff,L6.pickF [0,1,2,3,4,5,6,7,8,9,10,11,12,13] rfl (aR 14 rfl hfl)⟩
     ·have c1:=hJ.ct k hk
      rw [pD,tI htn hO.nd,hd k,hlen]
      by_cases e1:k=tkn
      ·obtain rfl:=e1.symm
       rw [if_neg htn,if_pos rfl,if_neg htn,cK];lia
      ·have e2:¬ tkn=k:=λ c=>e1 c.symm
       rw [if_neg e2,c9 e1]
       by_cases e3:k∈a::ot
       ·have:=hpo k e3
        rw [if_pos e3,if_pos e3];lia
       ·rw [if_neg e3,if_neg e3];lia
     ·have z:=B1 (b:=λ k=>Nat.blt 0 (l k)) (b':=λ k=>Nat.blt 0 (f8 (cg l tkn 0) (a::ot) k)) (t:=tkn) (n:=D.n) (λ k hk h1=>?_) ht (mV hpos) ?_
      ·have:=hJ.lv;lia
      ·have h2:=FV h1
       refine mV ?_
       rw [hd k] at h2
       by_cases e1:k=tkn
       ·obtain rfl:=e1.symm;exact hpos
       ·rw [c9 e1] at h2
        by_cases e3:k∈a::ot
        ·exact hpo k e3
        ·rw [if_neg e3] at h2;exact h2
      ·show Nat.blt 0 (f8 (cg l tkn 0) (a::ot) tkn)=false
       rw [hd tkn,if_neg htn,cK];rfl
     ·have:=hJ.pl;have:=hO.le
      rw [List.length_append,fH];lia
     ·intro p hp'
      rcases dm.mp hp' with h1|h1
      ·exact hJ.pm p h1
      ·obtain ⟨k,hk,rfl⟩:=aY.mp h1
       exact ⟨ht,hO.lt k hk⟩
end
end
variable {D:PD}{b T it pp lv fn pn:Nat}{l:Nat→Nat}{fl fl' cl:aq}{el:List Env}{t:Nat→Tok}{v9 v10 v11 v13 v14:Option Value}{o92 o99 o151:Obj}{sl:iT}{k0 k1:Tok}{kvl:Value}{ps0:VA}{er:List (Str×Tok×Value)}{prs:List (Nat×Nat)}{pdf:Nat→Addr}{h:Heap}{P0:KF}{p:Addr×Obj}
section
variable {w:World}{P:KF}{H:Heap}{A:Around}
theorem GT:bA i7=Ig++(BA++(xD++([iN 15]++(Ff++[iN 18])))):=by kernel_rfl
section
variable {t:Nat→Nat}
noncomputable def IF (later:Bool) (er:List (Str×Tok×Value)):Prop:=match later with
 |false=>er=[]
 |true=>∃ k8 ov,er=[en "others" k8 ov]
theorem pS (I:Al w H D pdf) (hdm:∀ k,k < D.n→D.d k≤D.m) (hK:cx w P0 P) (hD:c7 w P D) (hT:qw w P D pdf l) (hp:cq w P ps0 prs) (hJ:PJ D T l prs) (hTn:T < D.n+1) (hkw:∀ j,j < D.n→KP w P (kw j)=some (ab (D.pts l j) (kv j)))
  (hfb:∀ k,k < D.n→Nat.blt 0 (l k)=fb k) (hgb:∀ k,k < D.n→Nat.beq (l k) 0=gb k) (h92:al 61 19 o92) (h99:al 64 32 o99) (htx:fh o151 cl) (hfr:dP el fl') (hff:la fl' fl) (hnum:0≤num∧num < 10 ^ 9) (later:Bool) (her:IF later er) (R:RP)
  (L:ag (KP w P) H hh (bg D it pp fl') (ed w D l fb gb T it pp (c8 (T+1:Nat) (((D.n+1:Nat):Int) - (T+1:Nat)) 1) (en "pairs" k0 (.ref pp)::en "k" k1 kvl::en "sizes" k2 (.ref B.zl)::en "live" k5 (.ref B.vl)::er) fn sl (aF v11) num k4 k6 o92 o99 o151 t lv ps0 pn kw B++(cl++fl')) [])
  (hNext:∀ h (g:BG) t',GY w H D pdf el P0 it pp fl (T+1) true h→codeAny (model pg w) (AQ (aQ D.N::el)) (ch D.N it) R ⟨h,g,dr,t',os⟩)
  (hRet:∀ b h (g:BG) t',B6 w H D el P0 it pp fl b h→R (.ok (.ret (.bool b))) ⟨h,g,dr,t',os⟩):
  wpOwn (model pg w) (AQ (aQ D.N::el)) (ch D.N it) (execs (BA++(xD++([iN 15]++(Ff++[iN 18])))) (aQ D.N)) (u7 w (AQ (aQ D.N::el)) (ch D.N it) R) NE ⟨hh,gg,dr,tt,os⟩:=by
 have hfl:∀ p∈fl',p∈cl++fl':=λ p hp=>bu _ hp
 have two:∀ (tkn k11:Nat) (h:Heap) (g:BG) (t':Nat),tkn < D.n→((aB fb D.n).length=0∧tkn=0)∨((aB fb D.n).length≠0∧tkn < D.n∧0 < l tkn)→
   ag (KP w P) H h (bg D it pp fl') (ed w D l fb gb T it pp (c8 (T+1:Nat) (((D.n+1:Nat):Int) - (T+1:Nat)) 1) (en "pairs" k0 (.ref pp)::en "k" k1 kvl::en "sizes" k2 (.ref B.zl)::en "live" k5 (.ref B.vl)::er) fn sl (ak (.int (tkn:Int) k11)) num k4 k6 o92 o99 o151 t lv ps0 pn kw B++(cl++fl')) []→
   wpOwn (model pg w) (AQ (aQ D.N::el)) (ch D.N it) (execs (xD++([iN 15]++(Ff++[iN 18]))) (aQ D.N)) (u7 w (AQ (aQ D.N::el)) (ch D.N it) R) NE ⟨h,g,dr,t',os⟩:=by
  intro tkn k11 h g t' ht hc L
  refine dY ?_
  have fin:∀ (h:Heap) (g:BG) (t' k8 fn':Nat) (ac ol:Addr) (co:Obj) (tq:Nat→Tok) (on:Nat),wt co→ag (KP w P) H h (bg D it pp fl') (ed w D l fb gb T it pp (c8 (T+1:Nat) (((D.n+1:Nat):Int) - (T+1:Nat)) 1) [en "pairs" k0 (.ref pp),en "k" k1 kvl,en "sizes" k2 (.ref B.zl),en "live" k5 (.ref B.vl),en "others" k8 (.ref ol)] fn' sl (ak (.int (tkn:Int) k11)) num k4 k6 o92 o99 (dk #[.int 121 0,.int 36 0,.ref ac]) t lv ps0 pn kw B++([(ac,co),(ol,ab (oA (eK D l num tkn) tq) on)]++fl')) []→
    wpOwn (model pg w) (AQ (aQ D.N::el)) (ch D.N it) (execs ([iN 15]++(Ff++[iN 18])) (aQ D.N)) (u7 w (AQ (aQ D.N::el)) (ch D.N it) R) NE ⟨h,g,dr,t',os⟩:=
   λ h g t' k8 fn' ac ol co tq on hco L=>vP I hdm hK hD hT hp hJ hTn hkw hfb hgb h92 h99 hco hfr hff hc R L hNext hRet
  have hs:∀ p∈fl',p∈fl':=λ p hp=>hp
  have hq:er=[]∨∃ k8 ov,er=[en "others" k8 ov]:=by cases later;exact .inl her;exact .inr her
  rcases htx with ⟨rfl,rfl⟩|⟨ac,co,⟨av,ta,rfl⟩,rfl,rfl⟩
  ·exact GX hq hD hnum ht hs _ L fin
  ·exact Gm hq hD hnum ht hs _ L fin
 refine dY ?_
 by_cases he:(aB fb D.n).length=0
 ·have ht:0 < D.n:=Nat.succ_pos _
  exact GP he hD hnum hfl _ L λ h g t' k11 L=>two 0 k11 h g t' ht (.inl ⟨he,rfl⟩) L
 ·have hz:(num.fmod ((aB fb D.n).length:Int)).toNat < (aB fb D.n).length:=by
   rw [Int.fmod_eq_emod_of_nonneg _ (by lia)]
   have h1:=Int.emod_nonneg num (show ((aB fb D.n).length:Int)≠0 by lia)
   have h2:=Int.emod_lt_of_pos num (show (0:Int) < ((aB fb D.n).length:Int) by lia)
   lia
  obtain ⟨tkn,htk⟩:∃ tkn,(aB fb D.n)[(num.fmod ((aB fb D.n).length:Int)).toNat]?=some tkn:=⟨_,dT hz⟩
  obtain ⟨ht,hb⟩:=jH.mp (bQ htk)
  have hpos:0 < l tkn:=FV ((hfb tkn ht).trans hb)
  exact FX he htk hD hnum hfl _ L λ h g t' k11 L=>two tkn k11 h g t' ht (.inr ⟨he,ht,hpos⟩) L
theorem iX (I:Al w H D pdf) (hdm:∀ k,k < D.n→D.d k≤D.m) (hTn:T < D.n+1) (later:Bool) (hS:GY w H D pdf el P0 it pp fl T later hh) (R:RP)
  (hNext:∀ h (g:BG) t',GY w H D pdf el P0 it pp fl (T+1) true h→codeAny (model pg w) (AQ (aQ D.N::el)) (ch D.N it) R ⟨h,g,dr,t',os⟩)
  (hRet:∀ b h (g:BG) t',B6 w H D el P0 it pp fl b h→R (.ok (.ret (.bool b))) ⟨h,g,dr,t',os⟩):
  codeAny (model pg w) (AQ (aQ D.N::el)) (ch D.N it) R ⟨hh,gg,dr,tt,os⟩:=by
 obtain ⟨P,l,prs,k0,k1,kvl,er,fn,sl,v7,v8,v9,v10,v11,v13,v14,o92,o99,o151,t,lv,ps0,pn,cl,fl',hK,hD,hT,hp,hJ,her,h92,h99,htx,hfr,hff,L⟩:=hS
 have hP:=hT.pdp hD I
 have hnum:=AM T (hD.lo9 T)
 refine At (n:=D.n+1) hTn L.foot R L λ h g t' k4 L1=>?_
 rw [GT]
 refine dY ?_
 induction later with
 |false=>
  have her:er=[]:=her
  subst her
  refine Ir none (l:=l) (fb:=λ k=>Nat.blt 0 (l k)) (gb:=λ k=>Nat.beq (l k) 0) (cl0:=cl) hD hP hTn (λ _ _=>rfl) (λ _ _=>rfl) h92 hfr rfl _ L1 λ P' h g t2 fl2 sl' o92' kw kv k6 B k2 k5 q1 q2 q3 q4 q5 q6 q7 L2=>?_
  have eF:bg D it pp fl'=bg D it pp fl2:=by unfold bg;rw [q7.fs]
  rw [eF] at L2
  have kp:cx w P P':=λ a o _ e=>q1 a o e
  exact pS I hdm (hK.trans kp) q2 ⟨λ k hk=>by obtain ⟨v,hs,tk0,tk1,dn,e1,e2⟩:=hT.pt k hk;exact ⟨v,hs,tk0,tk1,dn,q1 _ _ e1,q1 _ _ e2⟩,hT.ld⟩ (hp.kept kp) hJ hTn q4 (λ _ _=>rfl) (λ _ _=>rfl) q5 h99 htx q6 (q7.trans hff) hnum false rfl R L2 hNext hRet
 |true=>
  obtain ⟨k2,zv,k5,vv,k8,ov,rfl⟩:=her
  refine Ir (some (k2,zv,k5,vv,k8,ov)) (l:=l) (fb:=λ k=>Nat.blt 0 (l k)) (gb:=λ k=>Nat.beq (l k) 0) (cl0:=cl) hD hP hTn (λ _ _=>rfl) (λ _ _=>rfl) h92 hfr rfl _ L1 λ P' h g t2 fl2 sl' o92' kw kv k6 B k2' k5' q1 q2 q3 q4 q5 q6 q7 L2=>?_
  have eF:bg D it pp fl'=bg D it pp fl2:=by unfold bg;rw [q7.fs]
  rw [eF] at L2
  have kp:cx w P P':=λ a o _ e=>q1 a o e
  exact pS I hdm (hK.trans kp) q2 ⟨λ k hk=>by obtain ⟨v,hs,tk0,tk1,dn,e1,e2⟩:=hT.pt k hk;exact ⟨v,hs,tk0,tk1,dn,q1 _ _ e1,q1 _ _ e2⟩,hT.ld⟩ (hp.kept kp) hJ hTn q4 (λ _ _=>rfl) (λ _ _=>rfl) q5 h99 htx q6 (q7.trans hff) hnum true ⟨_,_,rfl⟩ R L2 hNext hRet
theorem FA (I:Al w H D pdf) (hdm:∀ k,k < D.n→D.d k≤D.m) (R:RP)
  (hRet:∀ b h (g:BG) t',B6 w H D el P0 it pp fl b h→R (.ok (.ret (.bool b))) ⟨h,g,dr,t',os⟩):∀ (r T:Nat) (later:Bool),T+r=D.n→∀ hh (gg:BG) tt,GY w H D pdf el P0 it pp fl T later hh→
  codeAny (model pg w) (AQ (aQ D.N::el)) (ch D.N it) R ⟨hh,gg,dr,tt,os⟩:=by
 intro r
 induction r with
 |zero=>
  intro T later hT hh gg tt hS
  refine iX I hdm (by lia) later hS R (λ h g t' h2=>?_) hRet
  obtain ⟨P,l,prs,k0,k1,kvl,er,fn,sl,v7,v8,v9,v10,v11,v13,v14,o92,o99,o151,t,lv,ps0,pn,cl,fl',hK,hD,hT',hp,hJ,_⟩:=h2
  have:=hJ.lv
  lia
 |succ r ih=>
  intro T later hT hh gg tt hS
  exact iX I hdm (by lia) later hS R (λ h g t' h2=>ih (T+1) true (by lia) h g t' h2) hRet
end
end
section
variable {w:World}{P:KF}{H:Heap}{A:Around}
noncomputable def vB (i:Nat):Stmt:=fe (fB (st 13)) i
noncomputable def lS:PySem.Expr:=eh (vB 1)
noncomputable def jf:PySem.Expr:=eh (vB 2)
noncomputable def gT:PySem.Expr:=eh (vB 3)
theorem zj:lS=iU lS:=by kernel_rfl
theorem wm:jf=iU jf:=by kernel_rfl
theorem sS:gT=iU gT:=by kernel_rfl
structure PA (w:World) (P:KF) (m:Nat) (dd lk:Addr) (dn ln:Nat) (dA lA:VA) (d lo:Nat→Nat) (td tl:Nat→Tok):Prop where
 m45:m=4∨m=5
 dd:KP w P dd=some (ab dA dn)
 lk:KP w P lk=some (ab lA ln)
 ds:dA.size=m+1
 dg:∀ k,k < m+1→dA[k]?=some (.int (d k) (td k))
 lg:∀ k,k≤m+1→lA[k]?=some (.int (lo k) (tl k))
 d6:∀ k,k < m+1→d k≤m
 l9:∀ k,lo k < 10 ^ 9
theorem FY {m dd lk dn ln:Nat}{dA lA:VA}{d lo:Nat→Nat}{td tl:Nat→Tok}{k:Nat}(h:PA w P m dd lk dn ln dA lA d lo td tl) (hk:k < m+1):(d k:Int).toNat≤6:=by
 have:=h.d6 k hk;have:=h.m45;lia
theorem Ey {m dd lk dn ln:Nat}{dA lA:VA}{d lo:Nat→Nat}{td tl:Nat→Tok}(h:PA w P m dd lk dn ln dA lA d lo td tl) (k:Nat):0≤(lo k:Int)∧(lo k:Int) < 10 ^ 9:=by
 have:=h.l9 k;lia
noncomputable def jl (d lo:Nat→Nat) (k:Nat) (q:NN):aq:=(q 0,ab (iZ (aw q (d k+ia (lo k)))) (q 1))::mO (jZ ((lo k:Int).fmod 2==1) (lo k) (oS k)) (aw q (d k+ia (lo k)))
noncomputable def gh (k:Nat) (q:NN):Obj:=⟨.type "dict",none,.dict #[⟨rL (q 2) (q 3),.str "_initial_size" (q 4),.int (k:Int) (q 5)⟩] (q 6),#[]⟩
noncomputable def fL (k:Nat) (q:NN):aq:=[(q 0,ax (q 1) #[] 0),(q 1,gh k q)]
theorem gH {k:Nat}(h:k < 6):0≤(k:Int)∧(k:Int) < 2 ^ 63:=by lia
theorem Ep {k:Nat}(h:k < 6):(seqIndex? (k:Int) (Str.ofString "abcdef").length).bind ((Str.ofString "abcdef").cps[·]?)=some (97+k):=by
 match k,h with
 |0,_=>decide+kernel
 |1,_=>decide+kernel
 |2,_=>decide+kernel
 |3,_=>decide+kernel
 |4,_=>decide+kernel
 |5,_=>decide+kernel
theorem DB {H:Heap}{F:List Addr}{a b c r:Addr×Obj}{pc:aq}(L:ag K H h F ([a,b,c,r]++(nw++pc)) old):ag K H h F ([a,b,c]++((r::pc)++nw)) old:=by
 refine L.perm ((List.Perm.cons a (.cons b (.cons c (.cons r ?_)))))
 exact jm (l₁:=nw) (l₂:=pc)
theorem vd {N m:Nat}{dd lk dn ln:Nat}{dA lA:VA}{d lo:Nat→Nat}{td tl:Nat→Tok}(h0:PA w P m dd lk dn ln dA lA d lo td tl):zK w P AY lS "k" (m+1) it acc gf (fR lS gf [("looks",N+2),("degrees",N+1)] N) [(N+2,ak (.ref lk)),(N+1,ak (.ref dd))] (jl d lo):=by
 intro H R dr os i hi ys nw an fn js h g tt hy hj L k
 obtain ⟨M,hM⟩:=bd h
 have hi6:i < 6:=by have:=h0.m45;lia
 have hpf:=f9 h0.lk (f9 h0.dd am)
 obtain ⟨w,c,rfl⟩:=cB w
 refine dv [b9 i (m+1),aN,d5 lA (i:Int) (.int (lo i) (tl i)),Cr "abcdef" (i:Int) (97+i),d5 dA (i:Int) (.int (d i) (td i)),c0 (yu _ P) vq] hpf [U,.e,U,.c 0 [0],aj,aj,.k,aD,aj,aL,aL,aL,.e,aL,.c 2 [2000],aj,.e,.c 3 [],bJ,aj,bY,bY,bY,.e,bY,.c 4 [2001],.k,.c 5 [],.e,aj,.c 1 [2],.s] L hM λ ps=>?_
 refine cE AY [1,2,3,0] 4 (nw++mO (jZ ((lo i:Int).fmod 2==1) (lo i) (oS i)) (aw (ps 4).as (d i+ia (lo i)))) (λ W=>⟨.compLoop lS 0 (.ref it) (.ref acc) (fR lS gf [("looks",N+2),("degrees",N+1)] N),true,none,[(it,kX (i+1) (m+1)),(acc,ab (ys.push (.ref ((ps 4).6 0))) ((ps 5).6 0)),(gf,aJ w [("k",g7 js ((ps 0).4),.int ((↑i:Int)) ((ps 0).6 0))] (g0 js fn)),((ps (nat_lit 4)).6 (nat_lit 0),ab (iZ (aw (ps 4).as (d i+ia (lo i)))) ((ps 4).as 1))],[ys.size≤(1000:Nat),(↑(d i):Int).toNat≤(6:Nat),(0:Int)≤(↑(lo i):Int)∧(↑(lo i):Int) < (10:Int) ^ (9:Nat),iz (↑i:Int),dA[(↑i:Int).toNat]?=some (Value.int (↑(d i):Int) (td i)),(⟨#[(97:Nat)+i]⟩:Str).length≤(100000:Nat),iz (↑i:Int),((seqIndex? (↑i:Int) (Str.ofString "abcdef").length).bind λ x=>(Str.ofString "abcdef").cps[x]?)=some ((97:Nat)+i),iz (↑i:Int),lA[(↑i:Int).toNat]?=some (Value.int (↑(lo i):Int) (tl i)),i < m+(1:Nat)]⟩) rfl (by apply jq hj c;kernel_rfl) (by decide) (dc rfl) rfl rfl rfl rfl ?_ λ h' g' t' L'=>?_
 ·exact aa ((by lia:ys.size≤1000)) (aa (FY h0 hi) (aa (Ey h0 i) (aa (gH hi6) (aa (h0.dg i hi) (aa (bp rfl) (aa (gH hi6) (aa (Ep hi6) (aa (gH hi6) (aa (h0.lg i (Nat.le_of_lt hi)) (aa (hi) (ae)))))))))))
 exact k h' g' t' (ps 4).as _ _ _ _ (DB L')
theorem ql {N m:Nat}(hm:m≤5):zK w P AY gT "k" (m+1) it acc gf (fR gT gf [] N) [] fL:=by
 intro H R dr os i hi ys nw an fn js h g tt hy hj L k
 obtain ⟨M,hM⟩:=bd h
 have hi6:i < 6:=by lia
 obtain ⟨w,c,rfl⟩:=cB w
 refine dv [b9 i (m+1),aN,c0 xX wN] am [U,.e,U,.c 0 [0],aj,aj,.k,aj,.k,.k,.c 2 [],.e,cS,.c 1 [3],.s] L hM λ ps=>?_
 refine cE AY [2,3,4,0,1] 5 (nw++[]) (λ W=>⟨.compLoop gT 0 (.ref it) (.ref acc) (fR gT gf [] N),true,none,[(it,kX (i+1) (m+1)),(acc,ab (ys.push (.ref ((ps 1).6 0))) ((ps 2).6 0)),(gf,aJ w [("k",g7 js ((ps 0).4),.int ((↑i:Int)) ((ps 0).6 0))] (g0 js fn)),((ps (nat_lit 1)).6 (nat_lit 0),ax ((ps 1).6 1) #[] 0),((ps (nat_lit 1)).6 (nat_lit 1),gh i (ps 1).as)],[ys.size≤(1000:Nat),i < m+(1:Nat)]⟩) rfl (by apply jq hj c;kernel_rfl) (by decide) (dc rfl) rfl rfl rfl rfl ?_ λ h' g' t' L'=>?_
 ·exact aa ((by lia:ys.size≤1000)) (aa (hi) (ae))
 simp only [aX] at L'
 exact k h' g' t' (ps 1).as _ _ _ _ L'
theorem qZ {N m:Nat}{dd lk dn ln:Nat}{dA lA:VA}{d lo:Nat→Nat}{td tl:Nat→Tok}(h0:PA w P m dd lk dn ln dA lA d lo td tl):jV w P AY jf "k" (m+1) it acc gf (fR jf gf [("looks",N+2)] N) [it,acc,gf] [(N+2,ak (.ref lk))] (λ l=>l=[]) (ca λ i q=>.int ((lo i:Int).fmod 2) q.1) nF:=by
 intro H R dr os i hi ys ex nw an fn js h g tt hx hy hj L k
 subst hx
 obtain ⟨M,hM⟩:=bd h
 have hi6:i < 6:=by have:=h0.m45;lia
 have hpf:=f9 h0.lk am
 obtain ⟨w,c,rfl⟩:=cB w
 refine dv [b9 i (m+1),aN,d5 lA (i:Int) (.int (lo i) (tl i)),uD] hpf [U,.e,U,.c 0 [0],aj,aj,aD,aj,aL,aL,aL,.e,aL,.c 2 [2000],.e,.c 3 [],.e,ay,.c 1 [1],.s] L hM λ ps=>?_
 refine cE AY [0,1,2] 3 nw (λ W=>⟨.compLoop jf 0 (.ref it) (.ref acc) (fR jf gf [("looks",N+2)] N),true,none,[(it,kX (i+1) (m+1)),(acc,ab (ys.push (.int (Int.fmod ((↑(lo i):Int)) 2) ((ps 2).6 0))) ((ps 3).6 0)),(gf,aJ w [("k",g7 js ((ps 0).4),.int ((↑i:Int)) ((ps 0).6 0))] (g0 js fn))],[ys.size≤(1000:Nat),iz (↑i:Int),lA[(↑i:Int).toNat]?=some (Value.int (↑(lo i):Int) (tl i)),i < m+(1:Nat)]⟩) rfl (by apply jq hj c;kernel_rfl) (by decide) (dc rfl) rfl rfl rfl rfl ?_ λ h' g' t' L'=>?_
 ·exact aa ((by lia:ys.size≤1000)) (aa (gH hi6) (aa (h0.lg i (Nat.le_of_lt hi)) (aa (hi) (ae))))
 exact k h' g' t' (_,0,0) _ _ _ _ [] rfl L'
noncomputable def zA (w:World) (P:KF) (N:Nat) (m dd lk dn ln:Nat) (dA lA:VA) (d lo:Nat→Nat) (td tl:Nat→Tok):Sp:=DX w 600 2000 lS "k" (m+1) [(1,λ fd=>N+2),(1,λ fd=>N+1)] (λ fd=>⟨[("looks",N+2),("degrees",N+1)],"_law_paired.<locals>.",153,N,[(N+2,ak (.ref lk)),(N+1,ak (.ref dd))],[],jl d lo,[PA w P m dd lk dn ln dA lA d lo td tl]⟩)
theorem vE {w:World}{P:KF}{N:Nat}{m dd lk dn ln:Nat}{dA lA:VA}{d lo:Nat→Nat}{td tl:Nat→Tok}:bO w (KP w P) (zA w P N m dd lk dn ln dA lA d lo td tl):=by
 refine u0 (by decide) (by decide) zj λ fd ho hp=>?_
 exact vd (ho _ (.head _))
noncomputable def ph (w:World) (P:KF) (N m:Nat):Sp:=DX w 600 2000 gT "k" (m+1) [] (λ fd=>⟨[],"_law_paired.<locals>.",153,N,[],[],fL,[m≤5]⟩)
theorem pE {w:World}{P:KF}{N m:Nat}:bO w (KP w P) (ph w P N m):=by
 refine u0 (by decide) (by decide) sS λ fd ho hp=>?_
 exact ql (ho _ (.head _))
noncomputable def u6 (w:World) (P:KF) (N:Nat) (m dd lk dn ln:Nat) (dA lA:VA) (d lo:Nat→Nat) (td tl:Nat→Tok):Sp:=mU w 600 2000 jf "k" (m+1) [(1,λ fd=>N+2)] (λ fd=>⟨[("looks",N+2)],"_law_paired.<locals>.",153,N,[],[(N+2,ak (.ref lk))],[],λ _=>[],(ca λ i q=>.int ((lo i:Int).fmod 2) q.1),nF,[PA w P m dd lk dn ln dA lA d lo td tl]⟩)
theorem rX {w:World}{P:KF}{N:Nat}{m dd lk dn ln:Nat}{dA lA:VA}{d lo:Nat→Nat}{td tl:Nat→Tok}:bO w (KP w P) (u6 w P N m dd lk dn ln dA lA d lo td tl):=by
 refine f5 (by decide) (by decide) wm (λ fd i q ys=>by simp) (λ fd z=>rfl) λ fd ho hp=>?_
 have h0:=ho _ (.head _)
 exact ⟨_,bT rfl rfl,qZ h0⟩
end
variable {tl:Nat→Tok}{d lo:Nat→Nat}{m dd lk ln:Nat}{dA lA:VA}
section
variable {w:World}{P:KF}{H:Heap}{A:Around}
noncomputable abbrev Fe (N it:Addr):Code:=.forLoop (m6 (vB 4)) (.ref it) (bA (vB 4)) (ng (vB 4)) (aQ N)
theorem Cd {N n i pt pd r rv pl rl plv rlv:Nat}{F:List Addr}{tl:aq}{q:NN}{row plA rlA:VA}{js:List (Str×Tok×Value)}(hi:i < n) (hn:n≤6) (hj:js=[]∨∃ t v,js=[en "k" t v]) (c5:KP w P (N+5)=some (ak (.ref pl))) (c3:KP w P (N+3)=some (ak (.ref rl))) (hpl:KP w P pl=some (ab plA plv)) (hrl:KP w P rl=some (ab rlA rlv)) (gp:plA[i]?=some (.ref pt)) (gr:rlA[i]?=some (.ref r)) (hrow:row.size≤1000) (R:RP)
  (hF:∀ a∈F,a∈([(pt,ax pd #[] 0),(pd,gh i q),(N,br w (en "pairs" k0 (.ref pp)::js) fn),(it,c8 i ((n:Int) - i) 1)]++tl).map (·.1))
  (L:ag (KP w P) H hh F ([(pt,ax pd #[] 0),(pd,gh i q),(N,br w (en "pairs" k0 (.ref pp)::js) fn),(it,c8 i ((n:Int) - i) 1)]++tl) [(r,ab row rv)])
  (hR:∀ (h:Heap) (g:BG) (t' v dn fn':Nat) (hs:Int) (tk0 tk1 tj uj:Tok),ag (KP w P) H h F ([(pt,ax pd row v),(pd,d8 hs tk0 0 tk1 dn),(N,br w [en "pairs" k0 (.ref pp),en "k" tj (.int (i:Int) uj)] fn'),(it,c8 (i+1:Nat) ((n:Int) - (i+1:Nat)) 1)]++tl) [(r,ab row rv)]→codeAny (model pg w) AJ (Fe N it) R ⟨h,g,dr,t',os⟩):
  codeAny (model pg w) AJ (Fe N it) R ⟨hh,gg,dr,tt,os⟩:=by
 obtain ⟨M,hM⟩:=bd hh
 have hpf:=f9 c5 (f9 hpl (f9 c3 (f9 hrl am)))
 have hi6:i < 6:=by lia
 obtain ⟨w,c,rfl⟩:=cB w
 refine xT [b9 i n,d5 plA (i:Int) (.ref pt),c0 z5 vp,d5 rlA (i:Int) (.ref r),c0 uF sq] hpf [cS,.e,cS,.c 0 [3],aj,aj,aL,aj,bY,bY,bY,.e,bY,.c 1 [2001],U,.k,.k,.k,U,.k,.k,.k,U,.k,.k,.k,.k,U,ay,.k,.c 2 [0,1],aL,aj,bY,bY,bY,.e,bY,.c 1 [2001],U,.k,.k,.k,U,.k,.k,.k,U,.k,.k,.k,.k,U,ay,o8,aj,iD,iD,iD,.e,iD,.c 3 [2003],.k,.c 4 [0,1,1000],.s] 4 rfl (bp (by kernel_rfl)) (bp (by kernel_rfl)) L hM λ ps=>?_
 refine cE AJ [0,1,2,3] 4 ((tl++[])++[]) (λ W=>⟨Fe N it,true,none,[(pt,ax pd row ((ps 5).as 0)),(pd,d8 (rL ((ps 5).as 2) ((ps 5).as 3)) ((ps 5).as 4) 0 ((ps 5).as 5) ((ps 5).as 6)),(N,br w [("pairs",k0,.ref pp),("k",g7 js ((ps 0).4),.int ((↑i:Int)) ((ps 0).6 0))] (g0 js fn)),(it,kX (i+1) n)],[#[Value.ref ((ps 2).as (0:Nat))].size≤(1000:Nat),row.size≤(1000:Nat),iz (↑i:Int),rlA[(↑i:Int).toNat]?=some (Value.ref r),iz (↑i:Int),plA[(↑i:Int).toNat]?=some (Value.ref pt),iz (↑i:Int),plA[(↑i:Int).toNat]?=some (Value.ref pt),i < n]⟩) rfl (by apply jq hj c;kernel_rfl) (by decide) (λ a ha=>by have:=hF a ha;simpa using this) rfl rfl rfl rfl ?_ λ h' g' t' L'=>?_
 ·exact aa (bp rfl) (aa (hrow) (aa (gH hi6) (aa (gr) (aa (gH hi6) (aa (gp) (aa (gH hi6) (aa (gp) (aa (hi) (ae)))))))))
 rw [aX,aX] at L'
 exact hR h' g' t' _ _ _ _ _ _ _ _ L'
end
section
variable {w:World}{P:KF}{H:Heap}{A:Around}
theorem DL {N n:Nat}{F:List Addr}{tl:aq}{fr:Obj}(R:RP)
  (hF:∀ a∈F,a∈([(N,fr),(it,c8 n ((n:Int) - n) 1)]++tl).map (·.1))
  (L:ag (KP w P) H hh F ([(N,fr),(it,c8 n ((n:Int) - n) 1)]++tl) [])
  (hR:∀ (h:Heap) (g:BG) (t':Nat),ag (KP w P) H h F ([(N,fr),(it,c8 n ((n:Int) - n) 1)]++tl) []→R (.ok .next) ⟨h,g,dr,t',os⟩):
  codeAny (model pg w) AJ (Fe N it) R ⟨hh,gg,dr,tt,os⟩:=by
 obtain ⟨M,hM⟩:=bd hh
 refine xT [yj n] am [ay,.e,ay,.c 0 [1],U,.e] 4 rfl (bp (by kernel_rfl)) (bp (by kernel_rfl)) L hM λ ps=>?_
 refine ba [2,3] 4 tl (λ W=>⟨.ok .next,[(N,fr),(it,dS (.type "range_iterator") #[.int ((↑n:Int)) 0,.int (((↑n:Int)) - ((↑n:Int))) 0,.int 1 0])],[]⟩) rfl (by kernel_rfl) (by decide) hF ae λ h' g' t' L'=>?_
 exact hR _ _ _ L'
section
variable {F:List Addr}{own:aq}{a b x:Addr}{o x1 x2:Obj}
theorem GS (e1:KP w P a=some x1) (e2:KP w P b=some x2) (hne:a≠b) (k1:K0 w a=none) (k2:K0 w b=none) (h1:H.get? a=none) (h2:H.get? b=none) (L:ag (KP w P) H h F own old):ag (KP w (dO P a b)) H h F ((a,x1)::(b,x2)::own) old:=by
 have L1:ag (KP w (bN (dO P a b) [(a,x1),(b,x2)])) H h F own old:=by
  rw [nV ((bP (P:=P) k1).symm.trans e1) ((bP (P:=P) k2).symm.trans e2) hne];exact L
 have L2:=L1.outP (Am hne) (wr (by rw [bP k1,oM]) (by rw [bP k2,rM]))
 exact ((L2.oldOwn h1).oldOwn h2).perm (List.Perm.swap _ _ _)
theorem pz (h1:P a=some o):bN (dO P a a) [(a,o)]=P:=by
 funext x
 by_cases e1:x=a
 ·subst e1;rw [dC (by simp) (o:=o) (.head _),h1]
 ·rw [eW (by simp [e1]),gD e1 e1]
theorem Hg (e1:KP w P a=some o) (k1:K0 w a=none) (L:ag (KP w P) H h F own old):ag (KP w (dO P a a)) H h F own ((a,o)::old):=by
 have L1:ag (KP w (bN (dO P a a) [(a,o)])) H h F own old:=by
  rw [pz ((bP (P:=P) k1).symm.trans e1)];exact L
 exact L1.outP (by simp) λ q hq=>by rw [ci.mp hq,bP k1,oM]
theorem Fx (e1:KP w P a=some o) (k1:K0 w a=none) (L:ag (KP w (dO P a a)) H h F own ((a,o)::old)):ag (KP w P) H h F own old:=by
 have L1:=ag.intoP (S:=[(a,o)]) L
 rw [pz ((bP (P:=P) k1).symm.trans e1)] at L1
 exact L1
theorem gx (h:KP w P x=some o) (h1:x≠a) (h2:x≠b):KP w (dO P a b) x=some o:=by
 rcases eO h with e|⟨e0,e⟩
 ·exact dN e
 ·rw [bP e0,gD h1 h2];exact e
theorem xJ (e1:KP w P a=some x1) (c1:x1.cls=.ref 130) (h:KP w P x=some o) (hs:oY o):x≠a:=λ e=>by
 obtain ⟨s,c,n⟩:=hs
 rw [e,e1] at h
 have:(Value.ref 130:Value)=Value.type s:=c1.symm.trans ((congrArg Obj.cls (bo h)).trans c)
 cases this
theorem tB (e1:KP w P a=some x1) (c1:x1.cls=.type "dict") (h:KP w P x=some o) (hs:oY o):x≠a:=λ e=>by
 obtain ⟨s,c,n⟩:=hs
 rw [e,e1] at h
 have:(Value.type "dict":Value)=Value.type s:=c1.symm.trans ((congrArg Obj.cls (bo h)).trans c)
 exact n (Value.type.inj this).symm
end
structure Io (w:World) (H:Heap) (n:Nat) (pt pd r:Nat→Addr) (row:Nat→VA) (pl rl:Addr):Prop where
 n6:n≤6
 ip:∀ j k,j < n→k < n→pt j=pt k→j=k
 iq:∀ j k,j < n→k < n→pd j=pd k→j=k
 hp:∀ k,k < n→H.get? (pt k)=none∧K0 w (pt k)=none
 hq:∀ k,k < n→H.get? (pd k)=none∧K0 w (pd k)=none
 hr:∀ k,k < n→K0 w (r k)=none∧r k≠pl∧r k≠rl
 rs:∀ k,k < n→(row k).size≤1000
structure Iu (w:World) (P:KF) (n i N:Nat) (pt pd r rv:Nat→Addr) (row:Nat→VA) (qf:Nat→NN) (pl rl plv rlv:Nat) (plA rlA:VA):Prop where
 c5:KP w P (N+5)=some (ak (.ref pl))
 c3:KP w P (N+3)=some (ak (.ref rl))
 pl:KP w P pl=some (ab plA plv)
 rl:KP w P rl=some (ab rlA rlv)
 rk:∀ k,k < n→KP w P (r k)=some (ab (row k) (rv k))
 gp:∀ k,k < n→plA[k]?=some (.ref (pt k))
 gr:∀ k,k < n→rlA[k]?=some (.ref (r k))
 dn:∀ k,k < n→k < i→wH w P (pt k) (pd k) (row k)
 td:∀ k,k < n→i≤k→KP w P (pt k)=some (ax (pd k) #[] 0)∧KP w P (pd k)=some (gh k (qf k))
theorem BT {n N pl rl plv rlv:Nat}{F:List Addr}{tl:aq}{pt pd r rv:Nat→Addr}{row:Nat→VA}{qf:Nat→NN}{plA rlA:VA}(I:Io w H n pt pd r row pl rl) (R:RP):
  ∀ (u i:Nat),i+u=n→∀ (P:KF) (fn:Nat) (js:List (Str×Tok×Value)) (hh:Heap) (gg:BG) (tt:Nat),Iu w P n i N pt pd r rv row qf pl rl plv rlv plA rlA→(js=[]∨∃ t v,js=[en "k" t v])→(0 < i→∃ t v,js=[en "k" t v])→
  (∀ a∈F,a∈tl.map (·.1))→
  ag (KP w P) H hh F ([(N,br w (en "pairs" k0 (.ref pp)::js) fn),(it,c8 i ((n:Int) - i) 1)]++tl) []→
  (∀ (P':KF) (fn':Nat) (js':List (Str×Tok×Value)) (h:Heap) (g:BG) (t:Nat),cx w P P'→(js'=[]∨∃ t v,js'=[en "k" t v])→(0 < n→∃ t v,js'=[en "k" t v])→(∀ k,k < n→wH w P' (pt k) (pd k) (row k))→
   ag (KP w P') H h F ([(N,br w (en "pairs" k0 (.ref pp)::js') fn'),(it,c8 n ((n:Int) - n) 1)]++tl) []→R (.ok .next) ⟨h,g,dr,t,os⟩)→
  codeAny (model pg w) AJ (Fe N it) R ⟨hh,gg,dr,tt,os⟩:=by
 intro u
 induction u with
 |zero=>
  intro i hi P fn js hh gg tt S hj hj0 hF L hR
  have:i=n:=by lia
  subst this
  refine DL R L.foot L λ h g t' L'=>?_
  exact hR P fn js h g t' .refl hj hj0 (λ k hk=>S.dn k hk hk) L'
 |succ u ih=>
  intro i hi P fn js hh gg tt S hj hj0 hF L hR
  have hin:i < n:=by lia
  obtain ⟨e1,e2⟩:=S.td i hin (Nat.le_refl _)
  have hne:pt i≠pd i:=λ e=>by rw [←e,e1] at e2;cases e2
  have L1:=GS e1 e2 hne (I.hp i hin).2 (I.hq i hin).2 (I.hp i hin).1 (I.hq i hin).1 L
  have kd:∀ x o,oY o→KP w P x=some o→KP w (dO P (pt i) (pd i)) x=some o:=λ x o hs e=>gx e (xJ e1 rfl e hs) (tB e2 rfl e hs)
  have kr:=kd _ _ bc (S.rk i hin)
  have L2:=Hg kr (I.hr i hin).1 L1
  have kc:∀ x v,KP w P x=some (ak v)→KP w (dO (dO P (pt i) (pd i)) (r i) (r i)) x=some (ak v):=λ x v e=>by
   have hx:x≠r i:=λ c=>by rw [c,S.rk i hin] at e;exact absurd (Value.type.inj (congrArg Obj.cls (bo e))) (by decide)
   exact gx (kd _ _ bj e) hx hx
  refine Cd hin I.n6 hj (kc _ _ S.c5) (kc _ _ S.c3) (gx (kd _ _ bc S.pl) (I.hr i hin).2.1.symm (I.hr i hin).2.1.symm) (gx (kd _ _ bc S.rl) (I.hr i hin).2.2.symm (I.hr i hin).2.2.symm) (S.gp i hin) (S.gr i hin) (I.rs i hin) R L2.foot L2 λ h g t' v dn fn' hs tk0 tk1 tj uj L3=>?_
  have L4:=Fx kr (I.hr i hin).1 L3
  have L5:=in1 L4 λ x hx=>by
   have:=hF x hx
   show x∈N::it::(tl.map (·.1))
   exact .tail _ (.tail _ this)
  have kp:∀ x o,oY o→KP w P x=some o→KP w (kL P (pt i) (pd i) (ax (pd i) (row i) v) (d8 hs tk0 0 tk1 dn)) x=some o:=λ x o hs e=>dL e (xJ e1 rfl e hs) (tB e2 rfl e hs)
  refine ih (i+1) (by lia) _ fn' [en "k" tj (.int (i:Int) uj)] h g t' ⟨kp _ _ bj S.c5,kp _ _ bj S.c3,kp _ _ bc S.pl,kp _ _ bc S.rl,λ k hk=>kp _ _ bc (S.rk k hk),S.gp,S.gr,λ k hk hki=>?_,λ k hk hki=>?_⟩ (.inr ⟨_,_,rfl⟩) (λ _=>⟨_,_,rfl⟩) hF L5 λ P' fn' js' h g t q1 q2 q3 q4 q5=>hR P' fn' js' h g t (λ a o s e=>q1 a o s (kp a o s e)) q2 q3 q4 q5
  ·by_cases e:k=i
   ·subst e
    exact ⟨v,hs,tk0,tk1,dn,xw (I.hp k hk).2 hne,zZ (I.hq k hk).2 hne⟩
   ·obtain ⟨v',hs',a0,a1,dn',f1,f2⟩:=S.dn k hk (by lia)
    refine ⟨v',hs',a0,a1,dn',dL f1 (λ c=>e (I.ip k i hk hin c)) (λ c=>?_),dL f2 (λ c=>?_) λ c=>e (I.iq k i hk hin c)⟩
    ·rw [c,e2] at f1;cases f1
    ·rw [c,e1] at f2;cases f2
  ·obtain ⟨f1,f2⟩:=S.td k hk (by lia)
   have e:k≠i:=by lia
   refine ⟨dL f1 (λ c=>e (I.ip k i hk hin c)) (λ c=>?_),dL f2 (λ c=>?_) λ c=>e (I.iq k i hk hin c)⟩
   ·rw [c,e2] at f1;cases f1
   ·rw [c,e1] at f2;cases f2
end
variable {w:World}{P:KF}{H:Heap}{k j i pd dn pt r N pl rl plv rlv:Nat}{td:Nat→Tok}{plA rlA:VA}
noncomputable def qn (z:NN) (n k:Nat):NN:=λ j=>z (10+(j * n+k))
theorem iJ (z:NN) (n:Nat):dD (cm z n)=bk n (λ k=>qn z n k 0):=by
 unfold dD cm bk qn
 rw [List.map_map];rfl
theorem lQ {fm:Nat→NN→aq}{z:NN}{n:Nat}(hk:k < n) (h:p∈fm k (qn z n k)):p∈bF fm (cm z n):=by
 unfold bF
 refine List.mem_flatten.mpr ⟨fm k (qn z n k),List.mem_reverse.mpr (List.mem_mapIdx.mpr ⟨k,by rw [jp];exact hk,?_⟩),h⟩
 rw [p6 _ _ hk];rfl
theorem FU (x:Nat):(x:Int).fmod 2=((ia (x:Int):Nat):Int):=by
 unfold ia
 have e:(x:Int).fmod 2=((x % 2:Nat):Int):=by rw [Int.fmod_eq_emod_of_nonneg _ (by lia)];lia
 rw [e]
 rcases Nat.mod_two_eq_zero_or_one x with h|h<;>rw [h]<;>rfl
theorem DI {f:Nat→Str×Str}{qs:List Q3}(h:∀ p∈mO f qs,KP w P p.1=some p.2) (hl:qs.length≤1000) (hs:∀ i,(f i).1.length≤1000∧(f i).2.length≤1000):aZ w P (iZ qs) f:=by
 refine ⟨by rw [dw];exact hl,λ i hi=>⟨(hs i).1,(hs i).2,?_⟩⟩
 have hi':i < qs.length:=by rw [dw] at hi;exact hi
 refine ⟨qs[i].1,qs[i].2.1,qs[i].2.2,?_,?_⟩
 ·unfold iZ;simp [hi']
 ·refine h (qs[i].1,aU #[.str (f i).1 qs[i].2.1,.str (f i).2 qs[i].2.2] 0) ?_
  unfold mO
  exact List.mem_reverse.mpr (List.mem_mapIdx.mpr ⟨i,hi',rfl⟩)
theorem AD (b:Bool) (look:Int) (k i:Nat):(jZ b look (oS k) i).1.length≤1000∧(jZ b look (oS k) i).2.length≤1000:=by
 induction b with
 |false=>exact uk look k i
 |true=>
  induction i with
  |zero=>exact ⟨Nat.zero_le _,Nat.zero_le _⟩
  |succ i=>exact uk look k i
theorem HX {F:List Addr}{A:aq}(L:ag K H h F (A++S) old) (hF:∀ a∈F,a∈A.map (·.1)):∀ p∈S,H.get? p.1=none:=λ p hp=>by
 rcases (L.hown p (bu _ hp)).2 with h1|h1
 ·have nd:=L.ndOwn
  rw [aW] at nd
  exact absurd rfl ((bX.mp nd).2.2 p.1 (hF _ h1) p.1 (bW hp))
 ·exact h1
theorem ag.moreF {F:List Addr}{own:aq}(L:ag K H h F own old) (hs:∀ a∈F,a∈F') (hf:∀ a∈F',a∈own.map (·.1)):ag K H h F' own old:=
 ⟨λ b o hb e=>L.keep b o (λ c=>hb (hs _ c)) e,λ p hp=>⟨(L.hown p hp).1,(L.hown p hp).2.imp (hs _) id⟩,L.hold,L.nd,hf,L.kin,L.off,L.offo⟩
theorem ag.lessF {F:List Addr}{own:aq}(L:ag K H h F' own old) (hs:∀ a∈F',a∈F∨H.get? a=none) (hf:∀ a∈F,a∈own.map (·.1)):ag K H h F own old:=
 ⟨λ b o hb e=>L.keep b o (λ c=>by
  rcases hs b c with h1|h1
  ·exact hb h1
  ·rw [h1] at e;cases e) e,λ p hp=>⟨(L.hown p hp).1,by
  rcases (L.hown p hp).2 with h1|h1
  ·exact hs _ h1
  ·exact .inr h1⟩,L.hold,L.nd,hf,L.kin,L.off,L.offo⟩
section
variable {nA:VA}
noncomputable abbrev Gw (N m dd lk rl nl pl rlv nlv plv:Nat) (k3:Tok) (z1 z3:NN) (nA:VA):aq:=[(N+1,ak (.ref dd)),(N+2,ak (.ref lk)),(N+3,ak (.ref rl)),(N+4,ak (.ref nl)),(N+5,ak (.ref pl)),(N+12,ak (.int ((m+1:Nat):Int) k3)),(rl,ab (dD (cm z1 (m+1))) rlv),(nl,ab nA nlv),(pl,ab (dD (cm z3 (m+1))) plv)]
noncomputable abbrev oU (N m dd lk rl nl pl rlv nlv plv:Nat) (k3:Tok) (z1 z3:NN) (nA:VA) (d lo:Nat→Nat):aq:=
 Gw N m dd lk rl nl pl rlv nlv plv k3 z1 z3 nA++(bF (jl d lo) (cm z1 (m+1))++bF fL (cm z3 (m+1)))
noncomputable abbrev u8 (z1:NN) (m:Nat) (d lo:Nat→Nat) (k:Nat):List Q3:=aw (qn z1 (m+1) k) (d k+ia (lo k))
theorem oO (hk:k < m+1) (h:p∈jl d lo k (qn z1 (m+1) k)):p∈oU N m dd lk rl nl pl rlv nlv plv k3 z1 z3 nA d lo:=
 bu _ (aI _ (lQ hk h))
theorem i5 (hk:k < m+1) (h:p∈fL k (qn z3 (m+1) k)):p∈oU N m dd lk rl nl pl rlv nlv plv k3 z1 z3 nA d lo:=
 bu _ (bu _ (lQ hk h))
variable (h0:PA w P m dd lk dn ln dA lA d lo td tl) (nS:((oU N m dd lk rl nl pl rlv nlv plv k3 z1 z3 nA d lo).map (·.1)).Nodup) (hS:∀ p∈oU N m dd lk rl nl pl rlv nlv plv k3 z1 z3 nA d lo,KP w P p.1=none) (hH:∀ p∈oU N m dd lk rl nl pl rlv nlv plv k3 z1 z3 nA d lo,H.get? p.1=none)
include nS
theorem CM:∀ j k,j < m+1→k < m+1→qn z3 (m+1) j 1=qn z3 (m+1) k 1→j=k:=λ j k hj hk e=>by
 have m1:(qn z3 (m+1) j 1,gh j (qn z3 (m+1) j))∈oU N m dd lk rl nl pl rlv nlv plv k3 z1 z3 nA d lo:=i5 hj bU
 have m2:(qn z3 (m+1) k 1,gh k (qn z3 (m+1) k))∈oU N m dd lk rl nl pl rlv nlv plv k3 z1 z3 nA d lo:=i5 hk bU
 rw [e] at m1
 have e2:=key_unique nS m1 m2 rfl
 have e3:gh j (qn z3 (m+1) j)=gh k (qn z3 (m+1) k):=by
  first|exact congrArg Prod.snd e2|exact e2
 unfold gh at e3
 simp only [Obj.mk.injEq,Data.dict.injEq,Array.mk.injEq,List.cons.injEq,DictEntry.mk.injEq,Value.int.injEq] at e3
 lia
theorem F5:∀ j k,j < m+1→k < m+1→qn z3 (m+1) j 0=qn z3 (m+1) k 0→j=k:=λ j k hj hk e=>by
 have m1:(qn z3 (m+1) j 0,ax (qn z3 (m+1) j 1) #[] 0)∈oU N m dd lk rl nl pl rlv nlv plv k3 z1 z3 nA d lo:=i5 hj (.head _)
 have m2:(qn z3 (m+1) k 0,ax (qn z3 (m+1) k 1) #[] 0)∈oU N m dd lk rl nl pl rlv nlv plv k3 z1 z3 nA d lo:=i5 hk (.head _)
 rw [e] at m1
 have e2:=key_unique nS m1 m2 rfl
 have e3:ax (qn z3 (m+1) j 1) #[] 0=ax (qn z3 (m+1) k 1) #[] 0:=by
  first|exact congrArg Prod.snd e2|exact e2
 exact CM nS j k hj hk (bo (congrArg Obj.dict e3))
include h0 hS hH
theorem GO:Io w H (m+1) (λ k=>qn z3 (m+1) k 0) (λ k=>qn z3 (m+1) k 1) (λ k=>qn z1 (m+1) k 0) (λ k=>iZ (u8 z1 m d lo k)) pl rl:=by
 refine ⟨by have:=h0.m45;lia,F5 nS,CM nS,λ k hk=>⟨hH _ (i5 hk (.head _)),eJ (hS _ (i5 hk (.head _)))⟩,λ k hk=>⟨hH _ (i5 hk bU),eJ (hS _ (i5 hk bU))⟩,λ k hk=>⟨eJ (hS _ (oO hk (.head _))),?_,?_⟩,λ k hk=>?_⟩
 ·intro e
  have mr:(qn z1 (m+1) k 0,ab (iZ (u8 z1 m d lo k)) (qn z1 (m+1) k 1))∈bF (jl d lo) (cm z1 (m+1))++bF fL (cm z3 (m+1)):=aI _ (lQ hk (.head _))
  have nd:=nS
  rw [aW] at nd
  exact (bX.mp nd).2.2 pl (bW (f:=(·.1)) (a:=(pl,ab (dD (cm z3 (m+1))) plv)) (qS 8 rfl)) (qn z1 (m+1) k 0) (bW (f:=(·.1)) mr) e.symm
 ·intro e
  have mr:(qn z1 (m+1) k 0,ab (iZ (u8 z1 m d lo k)) (qn z1 (m+1) k 1))∈bF (jl d lo) (cm z1 (m+1))++bF fL (cm z3 (m+1)):=aI _ (lQ hk (.head _))
  have nd:=nS
  rw [aW] at nd
  exact (bX.mp nd).2.2 rl (bW (f:=(·.1)) (a:=(rl,ab (dD (cm z1 (m+1))) rlv)) (qS 6 rfl)) (qn z1 (m+1) k 0) (bW (f:=(·.1)) mr) e.symm
 ·rw [dw]
  have h1:=h0.d6 k hk
  have h2:ia (lo k:Int)≤1:=by unfold ia;cases ((lo k:Int).fmod 2==1)<;>decide
  have:=h0.m45
  simp [aw];lia
theorem HH:Iu w (bN P (oU N m dd lk rl nl pl rlv nlv plv k3 z1 z3 nA d lo)) (m+1) 0 N (λ k=>qn z3 (m+1) k 0) (λ k=>qn z3 (m+1) k 1) (λ k=>qn z1 (m+1) k 0) (λ k=>qn z1 (m+1) k 1) (λ k=>iZ (u8 z1 m d lo k)) (λ k=>qn z3 (m+1) k) pl rl plv rlv (dD (cm z3 (m+1))) (dD (cm z1 (m+1))):=by
 have mem:∀ p∈oU N m dd lk rl nl pl rlv nlv plv k3 z1 z3 nA d lo,KP w (bN P (oU N m dd lk rl nl pl rlv nlv plv k3 z1 z3 nA d lo)) p.1=some p.2:=λ p hp=>cy nS hS hp
 refine ⟨mem (N+5,_) (qS 4 rfl),mem (N+3,_) (qS 2 rfl),mem (pl,_) (qS 8 rfl),mem (rl,_) (qS 6 rfl),λ k hk=>mem _ (oO hk (.head _)),λ k hk=>?_,λ k hk=>?_,λ k hk hki=>absurd hki (Nat.not_lt_zero _),λ k hk _=>⟨mem _ (i5 hk (.head _)),mem _ (i5 hk bU)⟩⟩
 ·rw [iJ];exact bK hk
 ·rw [iJ];exact bK hk
noncomputable abbrev wi (N m lk rl nl pl rlv nlv plv ln lf:Nat) (k3:Tok) (z1 z3:NN) (d lo:Nat→Nat) (tl nt:Nat→Tok) (lA:VA):PD:=
 ⟨N,rl,nl,pl,lf,lk,m,rlv,nlv,plv,ln,k3,λ k=>qn z1 (m+1) k 0,λ k=>qn z3 (m+1) k 0,λ k=>qn z1 (m+1) k 1,nt,u8 z1 m d lo,lo,tl,lA,d⟩
theorem HA {lf:Nat}(hn:nA=ah (m+1) (λ k=>(lo k:Int).fmod 2) nt) (kp:cx w (bN P (oU N m dd lk rl nl pl rlv nlv plv k3 z1 z3 nA d lo)) P2) (h6:KP w P2 (N+6)=some (ak (.ref lf))):c7 w P2 (wi N m lk rl nl pl rlv nlv plv ln lf k3 z1 z3 d lo tl nt lA):=by
 have mem:∀ p∈oU N m dd lk rl nl pl rlv nlv plv k3 z1 z3 nA d lo,oY p.2→KP w P2 p.1=some p.2:=λ p hp s=>kp _ _ s (cy nS hS hp)
 refine ⟨h0.m45,mem (N+2,_) (qS 1 rfl) bj,mem (N+3,_) (qS 2 rfl) bj,mem (N+4,_) (qS 3 rfl) bj,mem (N+5,_) (qS 4 rfl) bj,h6,mem (N+12,_) (qS 5 rfl) bj,kp _ _ bc (b0 hS h0.lk),?_,?_,?_,λ k hk=>mem _ (oO hk (.head _)) bc,λ k hk=>?_,λ k hk=>?_,λ k hk=>?_,h0.lg,h0.l9⟩
 ·have:=mem (rl,ab (dD (cm z1 (m+1))) rlv) (qS 6 rfl) bc
  rw [iJ] at this;exact this
 ·have:=mem (nl,ab nA nlv) (qS 7 rfl) bc
  rw [hn] at this
  have e:ah (m+1) (λ k=>(lo k:Int).fmod 2) nt=ah (m+1) (λ k=>((ia (lo k:Int):Nat):Int)) nt:=by
   congr 1;funext k;exact FU _
  rw [e] at this;exact this
 ·have:=mem (pl,ab (dD (cm z3 (m+1))) plv) (qS 8 rfl) bc
  rw [iJ] at this;exact this
 ·refine DI (λ p hp=>mem p (oO hk (.tail _ hp)) ?_) ?_ λ i=>AD _ _ _ _
  ·unfold mO at hp
   obtain ⟨i,hi,rfl⟩:=List.mem_mapIdx.mp (List.mem_reverse.mp hp)
   exact f6
  ·have h1:=h0.d6 k hk
   have h2:ia (lo k:Int)≤1:=by unfold ia;cases ((lo k:Int).fmod 2==1)<;>decide
   have:=h0.m45
   show (aw _ _).length≤1000
   rw [n7];lia
 ·show (aw _ _).length=_
  rw [n7];rfl
 ·have h1:=h0.d6 k hk
  have:=h0.m45
  show d k < 6
  lia
end
section
variable {A:Around}
noncomputable abbrev AP (l:List Env):Around:=⟨none,580,some l,none,1900⟩
noncomputable abbrev fE (pp:Addr) (fl:aq):List Addr:=92::99::151::pp::cb fl
theorem fJ {F:List Addr}{own tl:aq}(k:Nat) (hF:F=((own.drop k).take 4).map (·.1)++cb fl) (h:∀ p∈fl,p∈tl):∀ a∈F,a∈(own++tl).map (·.1):=λ a ha=>by
 rw [hF] at ha
 rw [aW]
 rcases dm.mp ha with ha|ha
 ·obtain ⟨p,hp,rfl⟩:=aY.mp ha
  exact aI _ (bW (f:=(·.1)) (List.mem_of_mem_drop (List.mem_of_mem_take hp)))
 ·obtain ⟨p,hp,rfl⟩:=aY.mp ha
  exact bu _ (bW (f:=(·.1)) (h p hp))
section
variable {F:List Addr}{A B X:aq}
theorem vV (L:ag K H h F ((A++B)++(cf++X)) old):ag K H h F ((A++cf)++(B++X)) old:=by
 refine L.perm ?_
 rw [bC,bC]
 refine List.Perm.append_left A ?_
 rw [←bC,←bC]
 exact jm.append_right X
theorem sY (L:ag K H h F ((A++B)++cf) old):ag K H h F ((A++cf)++B) old:=by
 refine L.perm ?_
 rw [bC,bC]
 exact jm.append_left A
end
noncomputable abbrev Fq (fr:Obj) (N it:Nat) (pp:Nat) (m:Nat) (o92 o99 o151:Obj) (ps0:VA) (pn:Nat):aq:=
 [(N,fr),(it,c8 ((0:Nat):Int) (((m+1:Nat):Int) - ((0:Nat):Int)) 1),(N+7,cZ),(N+8,cZ),(N+9,cZ),(N+10,cZ),(N+11,cZ),(N+13,cZ),(N+14,cZ),(N+6,cZ),(92,o92),(99,o99),(151,o151),(pp,ab ps0 pn)]
theorem FG (h:PA w P m dd lk dn ln dA lA d lo td tl):dA=ah (m+1) (λ k=>(d k:Int)) td:=by
 apply Array.ext
 ·rw [h.ds,au]
 ·intro i h1 h2
  have hi:i < m+1:=by rw [←h.ds];exact h1
  have e1:=h.dg i hi
  have e2:=aG (v:=λ k=>(d k:Int)) (t:=td) hi
  rw [i9 h1] at e1
  rw [i9 h2] at e2
  rw [bo e1,bo e2]
theorem zE (hD:c7 w P D) (hk:k < D.n):D.pts D.d k=D.row k:=by
 unfold PD.pts
 have h1:=hD.len k hk
 have h2:(D.row k).toList.length=(D.qs k).length:=by
  show (iZ (D.qs k)).toList.length=_
  rw [Array.length_toList,dw]
 rw [List.take_of_length_le (by rw [h2,h1];lia)]
theorem IJ {a b c:Addr}{o p q:Obj}(h1:K a=some o) (h2:K b=some p) (h3:K c=some q):∀ x∈([(a,o),(b,p),(c,q)]:aq),K x.1=some x.2:=by
 simp only [f0]
 exact ⟨h1,h2,h3,λ _ h=>nomatch h⟩
end
section
variable {g:BG}{t:Nat}
noncomputable abbrev yU (w:World) (N it pp lf:Nat) (m:Nat) (k0 k1:Tok) (kvl:Value) (fn:Nat) (dA:VA) (lfv:Nat) (o92 o99 o151:Obj) (pn:Nat):aq:=
 [(N,br w [en "pairs" k0 (.ref pp),en "k" k1 kvl] fn),(it,c8 ((0:Nat):Int) (((m+1+1:Nat):Int) - ((0:Nat):Int)) 1),(N+7,cZ),(N+8,cZ),(N+9,cZ),(N+10,cZ),(N+11,cZ),(N+13,cZ),(N+14,cZ),(lf,ab dA lfv),(92,o92),(99,o99),(151,o151),(pp,ab #[] pn)]
theorem wH.add (hS:∀ p∈S,KP w P p.1=none) {a b:Addr}(h:wH w P a b xs):wH w (bN P S) a b xs:=by
 obtain ⟨v,hs,t0,t1,dn,e1,e2⟩:=h
 exact ⟨v,hs,t0,t1,dn,b0 hS e1,b0 hS e2⟩
theorem DN {lf lfv:Nat}{nA:VA}{l:List Env}
  (h0:PA w P m dd lk dn ln dA lA d lo td tl) (nS:((oU N m dd lk rl nl pl rlv nlv plv k3 z1 z3 nA d lo).map (·.1)).Nodup) (hS:∀ p∈oU N m dd lk rl nl pl rlv nlv plv k3 z1 z3 nA d lo,KP w P p.1=none) (hH:∀ p∈oU N m dd lk rl nl pl rlv nlv plv k3 z1 z3 nA d lo,H.get? p.1=none)
  (hn:nA=ah (m+1) (λ k=>(lo k:Int).fmod 2) nt) (kp:cx w (bN P (oU N m dd lk rl nl pl rlv nlv plv k3 z1 z3 nA d lo)) P2)
  (q4:∀ k,k < m+1→wH w P2 (qn z3 (m+1) k 0) (qn z3 (m+1) k 1) (iZ (u8 z1 m d lo k)))
  (hcf:cf=cl++fl) (hfr:dP l fl) (h92:al 61 19 o92) (h99:al 64 32 o99) (htx:fh o151 cl)
  (L:ag (KP w P2) H h (fE pp fl) (yU w N it pp lf m k0 k1 kvl fn dA lfv o92 o99 o151 pn++[(N+6,ak (.ref lf))]++cf) []) (R:RP)
  (hR:∀ (P':KF) (h:Heap) (g:BG) (t':Nat) (b:Bool) (prs:List (Nat×Nat)) (ps':VA) (pn':Nat) (o92' o99' o151':Obj) (cl' fl':aq),cx w P P'→b=hY ((List.range (m+1)).map d)→(b=true→∀ k,k < m+1→gk k prs=d k)→(∀ p∈prs,p.1 < m+1∧p.2 < m+1)→prs.length≤50→cq w P' ps' prs→al 61 19 o92'→al 64 32 o99'→fh o151' cl'→dP l fl'→la fl' fl→
   ag (KP w P') H h (fE pp fl') ([(92,o92'),(99,o99'),(151,o151'),(pp,ab ps' pn')]++(cl'++fl')) []→R (.ok (.ret (.bool b))) ⟨h,g,dr,t',os⟩):
  codeAny (model pg w) (AQ (aQ N::l)) (ch N it) R ⟨h,g,dr,t,os⟩:=by
 have hm:∀ p∈fl,p∈cf:=λ p hp=>by rw [hcf];exact bu _ hp
 have hA:∀ a∈fE pp fl,a∈(yU w N it pp lf m k0 k1 kvl fn dA lfv o92 o99 o151 pn++cf).map (·.1):=fJ 10 rfl hm
 have L1:=sY (A:=yU w N it pp lf m k0 k1 kvl fn dA lfv o92 o99 o151 pn) (B:=[(N+6,ak (.ref lf))]) L
 have hfresh:∀ a∈(yU w N it pp lf m k0 k1 kvl fn dA lfv o92 o99 o151 pn++cf).map (·.1),a∈fE pp fl∨H.get? a=none:=λ a ha=>by
  obtain ⟨p,hp,rfl⟩:=aY.mp ha
  exact (L1.hown p (aI _ hp)).2
 obtain ⟨L2,hS2,nS2⟩:=L1.stay hA
 have I:=GO h0 nS hS hH
 have kp2:cx w P2 (bN P2 [(N+6,ak (.ref lf))]):=eU hS2
 have hK:=HA (lf:=lf) h0 nS hS hH hn (kp.trans kp2) (cy nS2 hS2 (.head _))
 have kpP:cx w P (bN P2 [(N+6,ak (.ref lf))]):=((eU hS).trans kp).trans kp2
 have II:Al w H (wi N m lk rl nl pl rlv nlv plv ln lf k3 z1 z3 d lo tl nt lA) (λ k=>qn z3 (m+1) k 1):=⟨I.ip,I.iq,I.hp,I.hq⟩
 have hT:∀ a∈bg (wi N m lk rl nl pl rlv nlv plv ln lf k3 z1 z3 d lo tl nt lA) it pp fl,a∈(yU w N it pp lf m k0 k1 kvl fn dA lfv o92 o99 o151 pn++cf).map (·.1):=aR 14 rfl hm
 have hs:∀ a∈fE pp fl,a∈bg (wi N m lk rl nl pl rlv nlv plv ln lf k3 z1 z3 d lo tl nt lA) it pp fl:=λ a ha=>bu [N,it,N+7,N+8,N+9,N+10,N+11,N+13,N+14,lf] ha
 have L3:=L2.moreF hs hT
 rw [FG h0,hcf] at L3
 refine FA II (λ k hk=>h0.d6 k hk) R (λ b h g t' ht=>?_) (m+1) 0 false (Nat.zero_add _) h g t ⟨_,d,[],k0,k1,kvl,[],fn,#[],none,none,none,none,none,none,none,o92,o99,o151,td,lfv,#[],pn,cl,fl,kpP,hK,⟨λ k hk=>?_,λ k hk=>Nat.le_refl _⟩,⟨rfl,λ i p e=>by simp at e⟩,⟨rfl,λ k hk=>rfl,?_,Nat.le_refl 0,λ p hp=>nomatch hp⟩,rfl,h92,h99,htx,hfr,rfl,L3⟩
 ·obtain ⟨P',prs,x0,x1,x2,x3,x4,x5,x6,x7,x8,x9,o92',o99',o151',ps',pn',cl',fl',r1,r2,r3,r4,r5,r6,r7,r8,r9,r10,r11,L4⟩:=ht
  have eF:fE pp fl'=fE pp fl:=by unfold fE;rw [r11.fs]
  have eT:bg (wi N m lk rl nl pl rlv nlv plv ln lf k3 z1 z3 d lo tl nt lA) it pp fl'=bg (wi N m lk rl nl pl rlv nlv plv ln lf k3 z1 z3 d lo tl nt lA) it pp fl:=by unfold bg;rw [r11.fs]
  have hm':∀ p∈fl',p∈cl'++fl':=λ p hp=>bu _ hp
  have L5:=L4.lessF (F:=fE pp fl') (λ a ha=>by rw [eF];rw [eT] at ha;exact hfresh a (hT a ha)) (fJ 10 rfl hm')
  refine hR P' h g t' b prs ps' pn' o92' o99' o151' cl' fl' r1 r2 r3 r4 r5 r6 r7 r8 r9 r10 r11 ?_
  refine L5.pickF [10,11,12,13] rfl (fJ (own:=pI _ [10,11,12,13]) 0 rfl hm')
 ·have:=(q4 k hk).add hS2
  rw [zE hK hk];exact this
 ·have:=List.length_filter_le (λ k=>Nat.blt 0 (d k)) (List.range (m+1))
  rw [List.length_range] at this
  exact this
end
section
variable {A:Around}
noncomputable def Hj:PySem.Expr→PySem.Expr
 |.BinOp _ _ r _=>r
 |_=>default
noncomputable def Hv:PySem.Expr→PySem.Expr
 |.Call _ (a::_) _ _=>a
 |_=>default
noncomputable def I1 (i:Nat):Stmt:=fe (fB (st 10)) i
noncomputable def uQ:Stmt:=I1 1
theorem B7 (k v:Nat):(if (v:Int) < (k:Int) then (v:Int) else (k:Int))=((cV k v:Nat):Int):=by
 unfold cV
 by_cases h:k≤v
 ·rw [if_neg (by lia),mV h]
 ·rw [if_pos (by lia)]
  have:Nat.ble k v=false:=by
   cases e:Nat.ble k v with
   |false=>rfl
   |true=>exact absurd (bp e) h
  rw [this]
noncomputable def o3:PySem.Expr:=Hv (Hj (mJ (cO (fe (bA uQ) 0))))
theorem wE {fr n:Nat}{ls:Nat}(hn:n≤6):fq w P AY o3 "size" (ah n (λ i=>(v i:Int)) t) ls it acc gf (hV o3 gf [("k",fr+1)] "_law_graph.<locals>." 138 fr) [it,acc,gf] [(fr+1,ak (.int (kk:Int) tk)),(ls,ab (ah n (λ i=>(v i:Int)) t) lv)] (λ l=>l=[]) (ca λ i q=>.int (cV kk (v i):Nat) q.1) nF:=by
 intro H R dr os i v hv ys ex nw an fn js h g tt hx hy hj L k
 obtain ⟨hi,rfl⟩:=cW hv
 subst hx
 obtain ⟨N,hN⟩:=bd h
 obtain ⟨w,c,rfl⟩:=cB w
 refine dv [dl (ah n (λ i=>(v i:Int)) t) i (.int (v i) (t i)),aN,FC (kk:Int) (v i) (cV kk (v i):Nat)] am [U,.e,U,.c 0 [0,1001],aj,aj,.k,.k,aD,aj,.c 2 [],.e,ay,.c 1 [1],.s] L hN λ ps=>?_
 refine aC AY [0,1,2] 3 nw (λ W=>⟨.compLoop o3 0 (.ref it) (.ref acc) (hV o3 gf [("k",fr+1)] "_law_graph.<locals>." 138 fr),true,none,[(it,i4 ls (i+1)),(acc,ab (ys.push (.int ((↑(cV kk (v i)):Int)) ((ps 1).6 0))) ((ps 2).6 0)),(gf,aJ w [("size",g7 js ((ps 0).4),.int ((↑(v i):Int)) (t i))] (g0 js fn))],[ys.size≤(1000:Nat),(if (↑(v i):Int) < (↑kk:Int) then (↑(v i):Int) else (↑kk:Int))=(↑(cV kk (v i)):Int),(ah n (λ i=>(↑(v i):Int)) t)[i]?=some (Value.int (↑(v i):Int) (t i))]⟩) rfl (by apply jq hj c;kernel_rfl) (by decide) rfl rfl rfl rfl rfl ?_ λ h' g' t' L'=>?_
 ·repeat' first|exact ae|refine aa ?_ ?_
  all_goals first
   |lia
   |exact ⟨by lia,by lia⟩
   |exact aG hi
   |exact B7 _ _
 exact k h' g' t' (_,0,0) _ _ _ [] rfl L'
noncomputable def ly (w:World) (P:KF) (fr:Nat) (n:Nat) (kk:Nat) (v:Nat→Nat):Sp:=ii w 600 2000 o3 "size" [(1,λ fd=>fr+1),(1,λ fd=>mt (bm (az fd 0) 0))] (λ fd=>aT fd 4) (λ fd=>ad (az fd 4)) n (λ fd=>⟨[("k",fr+1)],"_law_graph.<locals>.",138,fr,[],[(fr+1,ak (.int (kk:Int) (bE (fT (az fd 3))))),(aT fd 4,ab (ad (az fd 4)) (ao (az fd 4)))],[],λ _=>[],(ca λ i q=>.int (cV kk (v i):Nat) q.1),nF,[∃ t,ad (az fd 4)=ah n (λ i=>(v i:Int)) t,n≤6]⟩)
theorem iQ {fr:Nat}{n:Nat}:bO w (KP w P) (ly w P fr n kk v):=by
 refine cC (by decide) (by decide) (by kernel_rfl) (λ fd i q ys=>by simp) (λ fd z=>rfl) λ fd ho hp=>?_
 have h0:=ho _ (.head _)
 have h1:=ho _ bU
 obtain ⟨t,h0⟩:=h0
 dsimp only at h0⊢
 rw [h0]
 exact ⟨_,ab (ah n (λ i=>(v i:Int)) t) (ao (az fd 4)),au,.inl bU,bT rfl rfl,wE h1⟩
end
section
variable {A:Around}
noncomputable def GV (N:Addr):Env:={ scope:=fS (st 10),locals:=N,globals:=3,cells:=[("k",N+1)],qual:="_law_graph.<locals>.",func:=some 139,code:=.ref 138,frame:=some N,builtins:=0 }
noncomputable abbrev zC (N it:Addr):Code:=.forLoop (m6 uQ) (.ref it) (bA uQ) (ng uQ) (GV N)
noncomputable abbrev bV (n:Nat) (v:Nat→Nat):List Nat:=(List.range n).map v
noncomputable def l4 (n i:Nat) (v:Nat→Nat):Int:=(fK ((bV n v).take (i+1)):Nat)
noncomputable def lu (n i:Nat) (v:Nat→Nat):Int:=(fK (((bV n v).drop (i+1)).map (cV (i+1))):Nat)
theorem nX (h:i < 6):IntMulOk ((i+1:Nat):Int) (((i+1:Nat):Int) - 1):=by
 match i,h with
 |0,_=>(unfold IntMulOk;decide+kernel)
 |1,_=>(unfold IntMulOk;decide+kernel)
 |2,_=>(unfold IntMulOk;decide+kernel)
 |3,_=>(unfold IntMulOk;decide+kernel)
 |4,_=>(unfold IntMulOk;decide+kernel)
 |5,_=>(unfold IntMulOk;decide+kernel)
noncomputable def aE (l:List Nat):List Int:=l.map λ x:Nat=>(x:Int)
theorem jQ:∀ l:List Nat,(aE l).sum=(fK l:Nat)
 |[]=>rfl
 |x::l=>by
  have:=jQ l
  show (x:Int)+(aE l).sum=((x+fK l:Nat):Int)
  rw [this];lia
theorem tR {l:List Value}(f:Nat→Tok) (hl:l.length=ns.length) (h:∀ j (h1:j < l.length) (h2:j < ns.length),l[j]=.int (ns[j]:Nat) (f j)):ey l.toArray (aE ns):=by
 refine ⟨(ns.mapIdx λ j (x:Nat)=>((x:Int),f j)).toArray,?_,?_⟩
 ·unfold intItems
  simp only [List.map_toArray]
  congr 1
  apply du
  ·simp [hl]
  ·intro j h1 h2
   rw [h j h1 (by lia)];simp
 ·apply du
  ·simp [aE]
  ·intro j h1 h2;simp [aE]
theorem iI {n:Nat}{v:Nat→Int}:(ah n v t).toList.length=n:=by unfold ah;simp
theorem fu {n:Nat}{v:Nat→Int}(h:j < (ah n v t).toList.length):(ah n v t).toList[j]=.int (v j) (t j):=by
 have hn:j < n:=by rw [iI] at h;exact h
 have e:=aG (v:=v) (t:=t) hn
 rw [←Array.getElem?_toList,dT h] at e
 exact bo e
theorem iM {n:Nat}:ey (((ah n (λ j=>(v j:Int)) t).toList.take ((i+1:Nat):Int).toNat).toArray) (aE ((bV n v).take (i+1)))∧(aE ((bV n v).take (i+1))).sum=l4 n i v:=by
 refine ⟨tR t ?_ λ j h1 h2=>?_,jQ _⟩
 ·simp [au]
 ·rw [List.getElem_take,List.getElem_take,fu];simp
theorem lV {n:Nat}:ey (ah n (λ j=>(v j:Int)) t) (aE (bV n v))∧(aE (bV n v)).sum=(fK (bV n v):Nat):=by
 refine ⟨?_,jQ _⟩
 have:=tR (l:=(ah n (λ j=>(v j:Int)) t).toList) (ns:=bV n v) t (by simp [au]) λ j h1 h2=>by rw [fu];simp
 rw [Array.toArray_toList] at this
 exact this
theorem yC {n:Nat}{f:Nat→Nat}(h:ns=(List.range n).map f):ey (cn (ca λ j q=>.int (f j:Nat) q.1) (aw z n)) (aE ns):=by
 subst h
 obtain ⟨t,e⟩:=dB (λ j=>(f j:Int)) z n
 rw [e]
 exact (lV (v:=f)).1
theorem xL {n:Nat}:((bV n v).drop (i+1)).map (cV (i+1))=(List.range (n - (i+1))).map λ j=>cV (i+1) (v (j+(i+1))):=by
 apply du
 ·simp
 ·intro j h1 h2
  simp [Nat.add_comm]
theorem xK {n:Nat}:ey (cn (ca λ j q=>.int (cV (i+1) (v (j+(i+1))):Nat) q.1) (aw z (n - (i+1)))) (aE (((bV n v).drop (i+1)).map (cV (i+1))))∧(aE (((bV n v).drop (i+1)).map (cV (i+1)))).sum=lu n i v:=
 ⟨yC xL,jQ _⟩
theorem Cb {n:Nat}:∃ t',(((ah n (λ j=>(v j:Int)) t).toList.drop ((i+1:Nat):Int).toNat).toArray)=ah (n - (i+1)) (λ j=>(v (j+(i+1)):Int)) t':=by
 refine ⟨λ j=>t (j+(i+1)),?_⟩
 apply Array.ext'
 show (ah n (λ j=>(v j:Int)) t).toList.drop (i+1)=_
 apply du
 ·simp [au]
 ·intro j h1 h2
  rw [List.getElem_drop,fu,fu,Nat.add_comm (i+1) j]
theorem jN {n c:Nat}(hc:n - (i+1)=c):∃ t',(((ah n (λ j=>(v j:Int)) t).toList.drop ((i+1:Nat):Int).toNat).toArray)=ah c (λ j=>(v (j+(i+1)):Int)) t':=by
 subst hc;exact Cb
theorem iO {n c:Nat}(hc:n - (i+1)=c):ey (cn (ca λ j q=>.int (cV (i+1) (v (j+(i+1))):Nat) q.1) (aw z c)) (aE (((bV n v).drop (i+1)).map (cV (i+1))))∧(aE (((bV n v).drop (i+1)).map (cV (i+1)))).sum=lu n i v:=by
 subst hc;exact xK
theorem ua {n:Nat}{v:Nat→Int}(h:n≤6) (k:Nat):(ah n v t).size≤1000∧0≤((k:Nat):Int):=by rw [au];lia
noncomputable def Ay (ns:List Int) (s:Int) (as:List Value) (l:List Nat) (e:LE):wX "sum" as e:=match as with
 |[p]=>match p with
  |.ref a=>cH e l a λ j a' o l' hi=>jz ⟨λ z=>.ok (.ret (.int s (z 0))),λ _=>e.own,[.v (.ref a) (.ref a'),.o o (ab (ad o) (ao o))],[ey (ad o) ns∧ns.sum=s]⟩ λ w P hq ho H F' h g d t os R L hp x=>by
   have e1:a=a':=bz (hq _ (.head _))
   have e2:o=ab (ad o) (ao o):=hq _ bU
   obtain ⟨⟨ys,e3,rfl⟩,e4⟩:=ho _ (.head _)
   subst e1
   have hh:=LE.get L hp hi
   rw [e2,e3] at hh
   refine Aa rfl hh λ h' t' u k=>?_
   rw [e4]
   exact x (λ _=>u) h' g t' (λ _=>rfl) (L.kept k)
  |_=>cG
 |_=>cG
noncomputable def y0 (ns:List Int) (s:Int):Ct:=ff "sum" (Ay ns s)
theorem wc (w:World) (P:KF) (ns:List Int) (s:Int):cT pg w (KP w P) (y0 ns s):=cw _ w P
noncomputable abbrev tJ (ns:List Int) (s:Int):dQ w P:=⟨y0 ns s,wc w P ns s⟩
end
section
variable {A:Around}
theorem EN {n:Nat}{kv:Option Value}(hi:i < n) (hc:n - (i+1)=0) (hn:n≤6) (hb:decide (l4 n i v > ((i+1:Nat):Int) * (((i+1:Nat):Int) - 1)+lu n i v)=true) (R:RP)
  (L:ag (KP w P) H hh [] ([(N,br w [en "degrees" t0 (.ref dd),en "row" t1 (.ref rl)] fn),(it,kX (i+1) (n+1)),(N+1,aF kv),(rl,ab (ah n (λ j=>(v j:Int)) t) rlv)]++[]) [])
  (hR:∀ (h:Heap) (g:BG) (t':Nat),ag (KP w P) H h [] [] []→R (.ok (.ret (.bool false))) ⟨h,g,dr,t',os⟩):
  codeAny (model pg w) AJ (zC N it) R ⟨hh,gg,dr,tt,os⟩:=by
 have hi6:i < 6:=by omega
 obtain ⟨M,hM⟩:=bd hh
 obtain ⟨w,c,rfl⟩:=cB w
 refine dv [b9 (i+1) (n+1),gK,nr (((ah n (λ j=>(v j:Int)) t).toList.take ((i+1:Nat):Int).toNat).toArray) (aE ((bV n v).take (i+1))) (l4 n i v),tJ (aE (((bV n v).drop (i+1)).map (cV (i+1)))) (lu n i v),tm,c0 (ly _ P N 0 (i+1) (λ j=>v (j+(i+1)))) iQ,sK (l4 n i v) (((i+1:Nat):Int) * (((i+1:Nat):Int) - 1)+lu n i v) true] am [ay,.e,ay,.c 0 [1],aj,aj,.k,.k,U,aj,aK,aK,aK,.e,aK,.c 1 [4,0],.c 2 [0],aK,aK,.e,.e,.e,.c 4 [],.k,.k,aj,aK,dR,dR,dR,.e,dR,.c 1 [6,0],U,U,.e,U,.e,U,.c 5 [2,1,0,9,3],U,.c 3 [1],.e,.e,.e,.c 6 []] L hM λ ps=>?_
 refine ba [] 11 ([]++ec nF (aw (ps 5).as 0)) (λ W=>⟨.ok (.ret (.bool false)),[],[decide (l4 n i v > (↑(i+(1:Nat)):Int) * ((↑(i+(1:Nat)):Int) - (1:Int))+lu n i v)=true,ey (cn (ca λ i_1 q=>Value.int (↑(cV (i+(1:Nat)) ((λ j=>v (j+(i+(1:Nat)))) i_1)):Int) q.fst) (aw (ps 5).as (0:Nat))) (aE (List.map (cV (i+(1:Nat))) (List.drop (i+(1:Nat)) (bV n v))))∧(aE (List.map (cV (i+(1:Nat))) (List.drop (i+(1:Nat)) (bV n v)))).sum=lu n i v,∃ t_1,(List.drop (↑(i+(1:Nat)):Int).toNat (ah n (λ j=>(↑(v j):Int)) t).toList).toArray=ah (0:Nat) (λ i_1=>(↑((λ j=>v (j+(i+(1:Nat)))) i_1):Int)) t_1,(0:Nat)≤(6:Nat),(ah n (λ j=>(↑(v j):Int)) t).size≤(1000:Nat)∧(0:Int)≤(↑(i+(1:Nat)):Int),IntMulOk (↑(i+(1:Nat)):Int) ((↑(i+(1:Nat)):Int) - (1:Int)),ey (List.take (↑(i+(1:Nat)):Int).toNat (ah n (λ j=>(↑(v j):Int)) t).toList).toArray (aE (List.take (i+(1:Nat)) (bV n v)))∧(aE (List.take (i+(1:Nat)) (bV n v))).sum=l4 n i v,(ah n (λ j=>(↑(v j):Int)) t).size≤(1000:Nat)∧(0:Int)≤(↑(i+(1:Nat)):Int),i+(1:Nat) < n+(1:Nat)]⟩) rfl (by apply bq c;kernel_rfl) (by decide) (λ a ha=>nomatch ha) ?_ λ h' g' t' L'=>?_
 ·repeat' first|exact ae|refine aa ?_ ?_
  all_goals first
   |omega
   |exact hb
   |exact ua hn _
   |exact nX hi6
   |exact jN hc
   |exact iM
   |exact iO hc
 simp only [bR,aX] at L'
 exact hR _ _ _ L'
theorem Ei {n:Nat}{kv:Option Value}(hi:i < n) (hc:n - (i+1)=(r+1)) (hn:n≤6) (hb:decide (l4 n i v > ((i+1:Nat):Int) * (((i+1:Nat):Int) - 1)+lu n i v)=true) (R:RP)
  (L:ag (KP w P) H hh [] ([(N,br w [en "degrees" t0 (.ref dd),en "row" t1 (.ref rl)] fn),(it,kX (i+1) (n+1)),(N+1,aF kv),(rl,ab (ah n (λ j=>(v j:Int)) t) rlv)]++[]) [])
  (hR:∀ (h:Heap) (g:BG) (t':Nat),ag (KP w P) H h [] [] []→R (.ok (.ret (.bool false))) ⟨h,g,dr,t',os⟩):
  codeAny (model pg w) AJ (zC N it) R ⟨hh,gg,dr,tt,os⟩:=by
 have hi6:i < 6:=by omega
 obtain ⟨M,hM⟩:=bd hh
 obtain ⟨w,c,rfl⟩:=cB w
 refine dv [b9 (i+1) (n+1),gK,nr (((ah n (λ j=>(v j:Int)) t).toList.take ((i+1:Nat):Int).toNat).toArray) (aE ((bV n v).take (i+1))) (l4 n i v),tJ (aE (((bV n v).drop (i+1)).map (cV (i+1)))) (lu n i v),tm,c0 (ly _ P N (r+1) (i+1) (λ j=>v (j+(i+1)))) iQ,sK (l4 n i v) (((i+1:Nat):Int) * (((i+1:Nat):Int) - 1)+lu n i v) true] am [ay,.e,ay,.c 0 [1],aj,aj,.k,.k,U,aj,aK,aK,aK,.e,aK,.c 1 [4,0],.c 2 [0],aK,aK,.e,.e,.e,.c 4 [],.k,.k,aj,aK,dR,dR,dR,.e,dR,.c 1 [6,0],U,U,.e,U,.e,U,.c 5 [2,1,0,9,3],U,U,U,.c 3 [1],.e,.e,.e,.c 6 []] L hM λ ps=>?_
 refine ba [] 11 ([]++ec nF (aw (ps 5).as (r+1))) (λ W=>⟨.ok (.ret (.bool false)),[],[decide (l4 n i v > (↑(i+(1:Nat)):Int) * ((↑(i+(1:Nat)):Int) - (1:Int))+lu n i v)=true,ey (cn (ca λ i_1 q=>Value.int (↑(cV (i+(1:Nat)) ((λ j=>v (j+(i+(1:Nat)))) i_1)):Int) q.fst) (aw (ps 5).as (r+(1:Nat)))) (aE (List.map (cV (i+(1:Nat))) (List.drop (i+(1:Nat)) (bV n v))))∧(aE (List.map (cV (i+(1:Nat))) (List.drop (i+(1:Nat)) (bV n v)))).sum=lu n i v,∃ t_1,(List.drop (↑(i+(1:Nat)):Int).toNat (ah n (λ j=>(↑(v j):Int)) t).toList).toArray=ah (r+(1:Nat)) (λ i_1=>(↑((λ j=>v (j+(i+(1:Nat)))) i_1):Int)) t_1,r+(1:Nat)≤(6:Nat),(ah n (λ j=>(↑(v j):Int)) t).size≤(1000:Nat)∧(0:Int)≤(↑(i+(1:Nat)):Int),IntMulOk (↑(i+(1:Nat)):Int) ((↑(i+(1:Nat)):Int) - (1:Int)),ey (List.take (↑(i+(1:Nat)):Int).toNat (ah n (λ j=>(↑(v j):Int)) t).toList).toArray (aE (List.take (i+(1:Nat)) (bV n v)))∧(aE (List.take (i+(1:Nat)) (bV n v))).sum=l4 n i v,(ah n (λ j=>(↑(v j):Int)) t).size≤(1000:Nat)∧(0:Int)≤(↑(i+(1:Nat)):Int),i+(1:Nat) < n+(1:Nat)]⟩) rfl (by apply bq c;kernel_rfl) (by decide) (λ a ha=>nomatch ha) ?_ λ h' g' t' L'=>?_
 ·repeat' first|exact ae|refine aa ?_ ?_
  all_goals first
   |omega
   |exact hb
   |exact ua hn _
   |exact nX hi6
   |exact jN hc
   |exact iM
   |exact iO hc
 simp only [bR,aX] at L'
 exact hR _ _ _ L'
theorem Bc {n:Nat}{kv:Option Value}(hi:i < n) (hc:n - (i+1)=0) (hn:n≤6) (hb:decide (l4 n i v > ((i+1:Nat):Int) * (((i+1:Nat):Int) - 1)+lu n i v)=false) (R:RP)
  (L:ag (KP w P) H hh [] ([(N,br w [en "degrees" t0 (.ref dd),en "row" t1 (.ref rl)] fn),(it,kX (i+1) (n+1)),(N+1,aF kv),(rl,ab (ah n (λ j=>(v j:Int)) t) rlv)]++[]) [])
  (hR:∀ (h:Heap) (g:BG) (t':Nat) (kv:Option Value),ag (KP w P) H h [] ([(N,br w [en "degrees" t0 (.ref dd),en "row" t1 (.ref rl)] fn),(it,c8 (i+1+1:Nat) (((n+1:Nat):Int) - (i+1+1:Nat)) 1),(N+1,aF kv),(rl,ab (ah n (λ j=>(v j:Int)) t) rlv)]++[]) []→codeAny (model pg w) AJ (zC N it) R ⟨h,g,dr,t',os⟩):
  codeAny (model pg w) AJ (zC N it) R ⟨hh,gg,dr,tt,os⟩:=by
 have hi6:i < 6:=by omega
 obtain ⟨M,hM⟩:=bd hh
 obtain ⟨w,c,rfl⟩:=cB w
 refine dv [b9 (i+1) (n+1),gK,nr (((ah n (λ j=>(v j:Int)) t).toList.take ((i+1:Nat):Int).toNat).toArray) (aE ((bV n v).take (i+1))) (l4 n i v),tJ (aE (((bV n v).drop (i+1)).map (cV (i+1)))) (lu n i v),tm,c0 (ly _ P N 0 (i+1) (λ j=>v (j+(i+1)))) iQ,sK (l4 n i v) (((i+1:Nat):Int) * (((i+1:Nat):Int) - 1)+lu n i v) false] am [ay,.e,ay,.c 0 [1],aj,aj,.k,.k,U,aj,aK,aK,aK,.e,aK,.c 1 [4,0],.c 2 [0],aK,aK,.e,.e,.e,.c 4 [],.k,.k,aj,aK,dR,dR,dR,.e,dR,.c 1 [6,0],U,U,.e,U,.e,U,.c 5 [2,1,0,9,3],U,.c 3 [1],.e,.e,.e,.c 6 [],.s] L hM λ ps=>?_
 refine cE AJ [7,8,9,10] 11 ([]++ec nF (aw (ps 5).as 0)) (λ W=>⟨zC N it,true,none,[(N,br w [("degrees",t0,.ref dd),("row",t1,.ref rl)] fn),(it,kX (i+1+1) (n+1)),(N+1,ak (.int ((↑(i+1):Int)) ((ps 0).6 0))),(rl,ab (ah n (λ j=>(↑(v j):Int)) t) rlv)],[decide (l4 n i v > (↑(i+(1:Nat)):Int) * ((↑(i+(1:Nat)):Int) - (1:Int))+lu n i v)=false,ey (cn (ca λ i_1 q=>Value.int (↑(cV (i+(1:Nat)) ((λ j=>v (j+(i+(1:Nat)))) i_1)):Int) q.fst) (aw (ps 5).as (0:Nat))) (aE (List.map (cV (i+(1:Nat))) (List.drop (i+(1:Nat)) (bV n v))))∧(aE (List.map (cV (i+(1:Nat))) (List.drop (i+(1:Nat)) (bV n v)))).sum=lu n i v,∃ t_1,(List.drop (↑(i+(1:Nat)):Int).toNat (ah n (λ j=>(↑(v j):Int)) t).toList).toArray=ah (0:Nat) (λ i_1=>(↑((λ j=>v (j+(i+(1:Nat)))) i_1):Int)) t_1,(0:Nat)≤(6:Nat),(ah n (λ j=>(↑(v j):Int)) t).size≤(1000:Nat)∧(0:Int)≤(↑(i+(1:Nat)):Int),IntMulOk (↑(i+(1:Nat)):Int) ((↑(i+(1:Nat)):Int) - (1:Int)),ey (List.take (↑(i+(1:Nat)):Int).toNat (ah n (λ j=>(↑(v j):Int)) t).toList).toArray (aE (List.take (i+(1:Nat)) (bV n v)))∧(aE (List.take (i+(1:Nat)) (bV n v))).sum=l4 n i v,(ah n (λ j=>(↑(v j):Int)) t).size≤(1000:Nat)∧(0:Int)≤(↑(i+(1:Nat)):Int),i+(1:Nat) < n+(1:Nat)]⟩) rfl (by apply bq c;kernel_rfl) (by decide) (λ a ha=>nomatch ha) rfl rfl rfl rfl ?_ λ h' g' t' L'=>?_
 ·repeat' first|exact ae|refine aa ?_ ?_
  all_goals first
   |omega
   |exact hb
   |exact ua hn _
   |exact nX hi6
   |exact jN hc
   |exact iM
   |exact iO hc
 simp only [bR,aX] at L'
 exact hR _ _ _ _ L'
theorem Cy {n:Nat}{kv:Option Value}(hi:i < n) (hc:n - (i+1)=(r+1)) (hn:n≤6) (hb:decide (l4 n i v > ((i+1:Nat):Int) * (((i+1:Nat):Int) - 1)+lu n i v)=false) (R:RP)
  (L:ag (KP w P) H hh [] ([(N,br w [en "degrees" t0 (.ref dd),en "row" t1 (.ref rl)] fn),(it,kX (i+1) (n+1)),(N+1,aF kv),(rl,ab (ah n (λ j=>(v j:Int)) t) rlv)]++[]) [])
  (hR:∀ (h:Heap) (g:BG) (t':Nat) (kv:Option Value),ag (KP w P) H h [] ([(N,br w [en "degrees" t0 (.ref dd),en "row" t1 (.ref rl)] fn),(it,c8 (i+1+1:Nat) (((n+1:Nat):Int) - (i+1+1:Nat)) 1),(N+1,aF kv),(rl,ab (ah n (λ j=>(v j:Int)) t) rlv)]++[]) []→codeAny (model pg w) AJ (zC N it) R ⟨h,g,dr,t',os⟩):
  codeAny (model pg w) AJ (zC N it) R ⟨hh,gg,dr,tt,os⟩:=by
 have hi6:i < 6:=by omega
 obtain ⟨M,hM⟩:=bd hh
 obtain ⟨w,c,rfl⟩:=cB w
 refine dv [b9 (i+1) (n+1),gK,nr (((ah n (λ j=>(v j:Int)) t).toList.take ((i+1:Nat):Int).toNat).toArray) (aE ((bV n v).take (i+1))) (l4 n i v),tJ (aE (((bV n v).drop (i+1)).map (cV (i+1)))) (lu n i v),tm,c0 (ly _ P N (r+1) (i+1) (λ j=>v (j+(i+1)))) iQ,sK (l4 n i v) (((i+1:Nat):Int) * (((i+1:Nat):Int) - 1)+lu n i v) false] am [ay,.e,ay,.c 0 [1],aj,aj,.k,.k,U,aj,aK,aK,aK,.e,aK,.c 1 [4,0],.c 2 [0],aK,aK,.e,.e,.e,.c 4 [],.k,.k,aj,aK,dR,dR,dR,.e,dR,.c 1 [6,0],U,U,.e,U,.e,U,.c 5 [2,1,0,9,3],U,U,U,.c 3 [1],.e,.e,.e,.c 6 [],.s] L hM λ ps=>?_
 refine cE AJ [7,8,9,10] 11 ([]++ec nF (aw (ps 5).as (r+1))) (λ W=>⟨zC N it,true,none,[(N,br w [("degrees",t0,.ref dd),("row",t1,.ref rl)] fn),(it,kX (i+1+1) (n+1)),(N+1,ak (.int ((↑(i+1):Int)) ((ps 0).6 0))),(rl,ab (ah n (λ j=>(↑(v j):Int)) t) rlv)],[decide (l4 n i v > (↑(i+(1:Nat)):Int) * ((↑(i+(1:Nat)):Int) - (1:Int))+lu n i v)=false,ey (cn (ca λ i_1 q=>Value.int (↑(cV (i+(1:Nat)) ((λ j=>v (j+(i+(1:Nat)))) i_1)):Int) q.fst) (aw (ps 5).as (r+(1:Nat)))) (aE (List.map (cV (i+(1:Nat))) (List.drop (i+(1:Nat)) (bV n v))))∧(aE (List.map (cV (i+(1:Nat))) (List.drop (i+(1:Nat)) (bV n v)))).sum=lu n i v,∃ t_1,(List.drop (↑(i+(1:Nat)):Int).toNat (ah n (λ j=>(↑(v j):Int)) t).toList).toArray=ah (r+(1:Nat)) (λ i_1=>(↑((λ j=>v (j+(i+(1:Nat)))) i_1):Int)) t_1,r+(1:Nat)≤(6:Nat),(ah n (λ j=>(↑(v j):Int)) t).size≤(1000:Nat)∧(0:Int)≤(↑(i+(1:Nat)):Int),IntMulOk (↑(i+(1:Nat)):Int) ((↑(i+(1:Nat)):Int) - (1:Int)),ey (List.take (↑(i+(1:Nat)):Int).toNat (ah n (λ j=>(↑(v j):Int)) t).toList).toArray (aE (List.take (i+(1:Nat)) (bV n v)))∧(aE (List.take (i+(1:Nat)) (bV n v))).sum=l4 n i v,(ah n (λ j=>(↑(v j):Int)) t).size≤(1000:Nat)∧(0:Int)≤(↑(i+(1:Nat)):Int),i+(1:Nat) < n+(1:Nat)]⟩) rfl (by apply bq c;kernel_rfl) (by decide) (λ a ha=>nomatch ha) rfl rfl rfl rfl ?_ λ h' g' t' L'=>?_
 ·repeat' first|exact ae|refine aa ?_ ?_
  all_goals first
   |omega
   |exact hb
   |exact ua hn _
   |exact nX hi6
   |exact jN hc
   |exact iM
   |exact iO hc
 simp only [bR,aX] at L'
 exact hR _ _ _ _ L'
end
section
variable {A:Around}
theorem E0 {n:Nat}{own:aq}(R:RP)
  (L:ag (KP w P) H hh [] ([(it,c8 n ((n:Int) - n) 1)]++own) [])
  (hR:∀ (h:Heap) (g:BG) (t':Nat),ag (KP w P) H h [] own []→R (.ok .next) ⟨h,g,dr,t',os⟩):
  codeAny (model pg w) AJ (zC N it) R ⟨hh,gg,dr,tt,os⟩:=by
 obtain ⟨M,hM⟩:=bd hh
 refine dv [yj n] am [U,.e,U,.c 0 [0],U,.e] L hM λ ps=>?_
 refine ba [] 3 own (λ W=>⟨.ok .next,[],[]⟩) rfl (by kernel_rfl) (by decide) (λ a ha=>nomatch ha) ae λ h' g' t' L'=>?_
 exact hR _ _ _ L'
noncomputable def CB (n i:Nat) (v:Nat→Nat):Bool:=decide (l4 n i v > ((i+1:Nat):Int) * (((i+1:Nat):Int) - 1)+lu n i v)
theorem BP {n:Nat}(hn:n≤6) (R:RP)
  (hNo:(∃ i,i < n∧CB n i v=true)→∀ (h:Heap) (g:BG) (t':Nat),ag (KP w P) H h [] [] []→R (.ok (.ret (.bool false))) ⟨h,g,dr,t',os⟩)
  (hEnd:(∀ i,i < n→CB n i v=false)→∀ (h:Heap) (g:BG) (t':Nat) (kv:Option Value),ag (KP w P) H h [] [(N,br w [en "degrees" t0 (.ref dd),en "row" t1 (.ref rl)] fn),(N+1,aF kv),(rl,ab (ah n (λ j=>(v j:Int)) t) rlv)] []→R (.ok .next) ⟨h,g,dr,t',os⟩):
  ∀ (u i:Nat),i+u=n→(∀ j,j < i→CB n j v=false)→∀ (hh:Heap) (gg:BG) (tt:Nat) (kv:Option Value),
  ag (KP w P) H hh [] ([(N,br w [en "degrees" t0 (.ref dd),en "row" t1 (.ref rl)] fn),(it,kX (i+1) (n+1)),(N+1,aF kv),(rl,ab (ah n (λ j=>(v j:Int)) t) rlv)]++[]) []→
  codeAny (model pg w) AJ (zC N it) R ⟨hh,gg,dr,tt,os⟩:=by
 intro u
 induction u with
 |zero=>
  intro i hi hf hh gg tt kv L
  have:i=n:=by lia
  subst this
  refine E0 (n:=i+1) R (L.perm (.swap _ _ _)) λ h g t' L'=>?_
  exact hEnd hf h g t' kv L'
 |succ u ih=>
  intro i hi hf hh gg tt kv L
  have hin:i < n:=by lia
  cases hb:CB n i v with
  |true=>
   cases hc:n - (i+1) with
   |zero=>exact EN hin hc hn hb R L λ h g t' L'=>hNo ⟨i,hin,hb⟩ h g t' L'
   |succ r=>exact Ei hin hc hn hb R L λ h g t' L'=>hNo ⟨i,hin,hb⟩ h g t' L'
  |false=>
   have hf':∀ j,j < i+1→CB n j v=false:=λ j hj=>by
    by_cases e:j=i
    ·rw [e];exact hb
    ·exact hf j (by lia)
   cases hc:n - (i+1) with
   |zero=>exact Bc hin hc hn hb R L λ h g t' kv' L'=>ih (i+1) (by lia) hf' h g t' kv' L'
   |succ r=>exact Cy hin hc hn hb R L λ h g t' kv' L'=>ih (i+1) (by lia) hf' h g t' kv' L'
theorem tC:∀ {n:Nat}{p:Nat→Bool},(∀ k,k < n→p k=true)→qB n p=true
 |0,_,_=>rfl
 |n+1,p,h=>by
  unfold qB
  rw [h n (Nat.lt_succ_self n)]
  exact tC λ k hk=>h k (Nat.lt_succ_of_lt hk)
noncomputable def eE (d:List Nat) (i:Nat):Nat:=(ic d).getD i 0
theorem fy (d:List Nat):(ic d).length=d.length:=(fQ d).length_eq
theorem nY {n:Nat}{d:List Nat}(h:d.length=n):bV n (eE d)=ic d:=by
 apply du
 ·simp [fy,h]
 ·intro i h1 h2
  simp [eE,h2]
theorem zo {n:Nat}:CB n i v=!(Nat.ble (fK ((bV n v).take (i+1))) ((i+1) * i+fK (((bV n v).drop (i+1)).map (cV (i+1))))):=by
 unfold CB l4 lu
 generalize fK ((bV n v).take (i+1))=a
 generalize fK (((bV n v).drop (i+1)).map (cV (i+1)))=b
 have e:((i+1:Nat):Int) * (((i+1:Nat):Int) - 1)=(((i+1) * i:Nat):Int):=by
  rw [show ((i+1:Nat):Int) - 1=((i:Nat):Int) by lia,←Int.natCast_mul]
 rw [e]
 generalize (i+1) * i=c
 by_cases h:a≤c+b
 ·rw [mV h]
  exact decide_eq_false (by lia)
 ·have:Nat.ble a (c+b)=false:=by
   cases q:Nat.ble a (c+b) with
   |false=>rfl
   |true=>exact absurd (bp q) h
  rw [this]
  exact decide_eq_true (by lia)
theorem DF {n:Nat}{d:List Nat}(hd:d.length=n) (h:∃ i,i < n∧CB n i (eE d)=true):hY d=false:=by
 obtain ⟨i,hi,hb⟩:=h
 unfold hY HK
 split
 ·rename_i ha
  rw [fy,hd] at ha
  have:=jU ha i hi
  rw [zo,nY hd,this] at hb
  cases hb
 ·rfl
theorem BF {n:Nat}{d:List Nat}(hd:d.length=n) (h:∀ i,i < n→CB n i (eE d)=false):hY d=Nat.beq (fK (bV n (eE d)) % 2) 0:=by
 rw [nY hd]
 unfold hY HK
 split
 ·rfl
 ·rename_i ha
  rw [tC] at ha
  ·cases ha
  ·intro k hk
   rw [fy,hd] at hk
   have:=h k hk
   rw [zo,nY hd] at this
   simpa using this
theorem sp (d:List Nat):(aE (ic d)).reverse=im (aE d):=by
 refine mH ((List.reverse_perm _).trans ((fQ d).map _)) ?_
 rw [List.pairwise_reverse]
 exact List.pairwise_map.mpr ((fw d).imp λ h=>by lia)
theorem uG {n:Nat}{d:List Nat}(hd:d.length=n) (z:Nat→Nat):∃ t,((ah (aE d).length (λ i=>(im (aE d)).getD i 0) (λ i=>z (10+i))).toList.reverse.toArray)=ah n (λ i=>(eE d i:Int)) t:=by
 have hl:(aE d).length=n:=by unfold aE;rw [fH,hd]
 rw [hl]
 refine ⟨λ i=>z (10+(n - 1 - i)),?_⟩
 apply Array.ext'
 show (ah n (λ i=>(im (aE d)).getD i 0) (λ i=>z (10+i))).toList.reverse=_
 apply du
 ·simp [au]
 ·intro i h1 h2
  have hi:i < n:=by rw [iI] at h2;exact h2
  rw [List.getElem_reverse,fu,fu,iI]
  congr 1
  rw [←sp]
  have h3:n - 1 - i < (aE (ic d)).reverse.length:=by
   rw [List.length_reverse];unfold aE;rw [fH,fy,hd];lia
  have h4:i < (ic d).length:=by rw [fy,hd];exact hi
  rw [hW,dT h3,Option.getD_some,List.getElem_reverse]
  unfold eE aE
  rw [List.getElem_map,hW,dT h4,Option.getD_some]
  congr 2
  rw [fH,fy,hd];omega
theorem uN (n:Nat):Builtin.Range.rangeSize 1 ((n+1:Nat):Int) 1=n:=by
 unfold Builtin.Range.rangeSize
 simp
 lia
noncomputable def vY (n:Nat) (as:List Value) (l:List Nat) (e:LE):CX "range.__iter__" as e:=match as with
 |[p]=>match p with
  |.ref a=>cH e l a λ j a' o l' hi=>jz ⟨λ z=>.ok (.ret (.ref (z 0))),λ z=>(z 0,c8 ((0+1:Nat):Int) (((n+1:Nat):Int) - ((0+1:Nat):Int)) 1)::e.own,
   [.v (.ref a) (.ref a'),.o o ⟨.type "range",none,.fields #[.int 1 (match bm o 0 with|.int _ t=>t|_=>0),.int ((n+1:Nat):Int) (match bm o 1 with|.int _ t=>t|_=>0),.int 1 (match bm o 2 with|.int _ t=>t|_=>0)],#[]⟩],[n < 1000]⟩ λ w P hq ho H F' h g d t os R L hp x=>by
   have e1:a=a':=bz (hq _ (.head _))
   have e2:=hq _ bU
   have e3:n < 1000:=ho _ (.head _)
   subst e1
   generalize (match bm o 0 with|.int _ t=>t|_=>0)=t0 at e2
   generalize (match bm o 1 with|.int _ t=>t|_=>0)=t1 at e2
   generalize (match bm o 2 with|.int _ t=>t|_=>0)=t2 at e2
   have e2':o=⟨.type "range",none,.fields #[.int 1 t0,.int ((n+1:Nat):Int) t1,.int 1 t2],#[]⟩:=e2
   subst e2'
   have hh:=LE.get L hp hi
   have hs:(Builtin.Range.rangeFitsLong 1&&Builtin.Range.rangeFitsLong ((n+1:Nat):Int)&&Builtin.Range.rangeFitsLong 1&&Builtin.Range.rangeFitsLong (Builtin.Range.rangeSize 1 ((n+1:Nat):Int) 1)&&(Builtin.Range.rangeSize 1 ((n+1:Nat):Int) 1==0||if (1:Int) > 0 then Builtin.Range.rangeFitsLong (((n+1:Nat):Int)+(1 - 1)) else Builtin.Range.rangeFitsLong (((n+1:Nat):Int)+(1+1))))=true:=by
    rw [uN,cX (a:=1) (by omega) (by omega),cX (a:=((n+1:Nat):Int)) (by omega) (by omega),cX (a:=(n:Int)) (by omega) (by omega)]
    have:=cX (a:=((n+1:Nat):Int)+(1 - 1)) (by omega) (by omega)
    rw [this];simp
   refine bw (F.slot_range_iter).plain F.entry_range_iter (AutoRange.range___iter___range_1 a 1 ((n+1:Nat):Int) 1 t0 t1 t2 (by rw [hs];decide)) ⟨hh,?_⟩
   simp only [hs,if_true]
   rw [uN]
   have eo:(⟨.type "range_iterator",none,.fields #[rawInt 1,rawInt n,rawInt 1],#[]⟩:Obj)=c8 ((0+1:Nat):Int) (((n+1:Nat):Int) - ((0+1:Nat):Int)) 1:=by
    have:((n+1:Nat):Int) - ((0+1:Nat):Int)=n:=by omega
    rw [this];rfl
   have L1:=L.pushed (c8 ((0+1:Nat):Int) (((n+1:Nat):Int) - ((0+1:Nat):Int)) 1) rfl
   rw [←eo] at L1
   exact x (λ _=>h.objs.size) _ g t (λ _=>rfl) (by rw [←eo];exact L1)
  |_=>cG
 |_=>cG
noncomputable def qb (n:Nat):Ct:=ef "range.__iter__" (vY n)
theorem qq (w:World) (P:KF) (n:Nat):cT pg w (KP w P) (qb n):=bH _ w P
noncomputable abbrev B8 (n:Nat):dQ w P:=⟨qb n,qq w P n⟩
end
section
variable {A:Around}
noncomputable abbrev ID:Around:=⟨none,580,none,none,1900⟩
theorem E4 {n:Nat}:(bV n d).length=n:=by simp
theorem qk:∀ (l:List Value) (ns:List Int) (f:Nat→Tok),l.length=ns.length→(∀ j (h1:j < l.length) (h2:j < ns.length),l[j]=.int ns[j] (f j))→IntsAre l ns
 |[],[],_,_,_=>.nil
 |[],_::_,_,h,_=>by simp at h
 |_::_,[],_,h,_=>by simp at h
 |x::l,n::ns,f,h,g=>by
  have:=g 0 (by simp) (by simp)
  simp at this
  rw [this]
  exact .cons n _ (qk l ns (λ j=>f (j+1)) (by simpa using h) λ j h1 h2=>by have:=g (j+1) (by simpa using h1) (by simpa using h2);simpa using this)
theorem tK (x:Nat):((x:Int).fmod 2==0)=Nat.beq (x % 2) 0:=by
 have e:(x:Int).fmod 2=((x % 2:Nat):Int):=by rw [Int.fmod_eq_emod_of_nonneg _ (by lia)];lia
 rw [e]
 rcases Nat.mod_two_eq_zero_or_one x with h|h<;>rw [h]<;>rfl
theorem tQ (hm:m≤5):IntsAre (ah (m+1) (λ k=>(d k:Int)) td).toList (aE (bV (m+1) d))∧(aE (bV (m+1) d)).length < 64:=by
 have hl:(aE (bV (m+1) d)).length=m+1:=by simp [aE]
 refine ⟨qk _ _ td (by rw [iI,hl]) λ j h1 h2=>?_,by lia⟩
 rw [fu]
 congr 1
 simp [aE]
theorem pV {n:Nat}{d:List Nat}(hd:d.length=n) (z:Nat→Nat):((ah (aE d).length (λ i=>(im (aE d)).getD i 0) (λ i=>z (10+i))).toList.reverse.toArray).size=n:=by
 obtain ⟨t,e⟩:=uG hd z
 rw [e,au]
theorem Ax (hm:m≤5) (hdd:KP w P dd=some (ab (ah (m+1) (λ k=>(d k:Int)) td) dn)) (R:RP) (L:ag (KP w P) hh hh [] [] [])
  (hR:∀ (h:Heap) (g:BG) (t':Nat),ag (KP w P) hh h [] [] []→R (.ok (.ret (.bool (hY (bV (m+1) d))))) ⟨h,g,dr,t',os⟩):codeAny (model pg w) ID (.call (.ref 139) ⟨[.ref dd],[]⟩) R ⟨hh,gg,dr,tt,os⟩:=by
 obtain ⟨N,hN⟩:=bd hh
 have hpf:=f9 hdd am
 have hl:(bV (m+1) d).length=m+1:=E4
 obtain ⟨w,c,rfl⟩:=cB w
 refine dv [Ej (ah (m+1) (λ k=>(d k:Int)) td) (aE (bV (m+1) d)),HO,y7 (m+1),B8 (m+1)] hpf [.k,ay,ay,.e,.k,.k,ay,.c 0 [2000],.e,.e,ay,ay,ay,.e,ay,.c 1 [1,0],.e,aK,aK,.k,.k,.k,.k,aK,.c 2 [0],.e,.e,.e,.e,.e,.e,U,U,.e,U,.e,U,U,U,.e,U,.c 3 [0],U,.s] L hN λ ps=>?_
 refine gU AJ [6,0,5,2] 7 [] (λ W=>⟨zC N ((ps 3).as 0),true,none,[(N,br w [("degrees",tt,.ref dd),("row",(ps 1).4,.ref ((ps 1).6 0))] (2)),((ps (nat_lit 3)).6 (nat_lit 0),c8 ((0+1:Nat):Int) (((m+1+1:Nat):Int) - ((0+1:Nat):Int)) 1),(N+1,cZ),((ps (nat_lit 1)).6 (nat_lit 0),ab ((ah (aE (bV (m+1) d)).length (λ i=>(im (aE (bV (m+1) d))).getD i (0:Int)) λ i=>(ps 0).as (10+i)).toList.reverse.toArray) 0)],[m+(1:Nat) < (1000:Nat),(ah (aE (bV (m+(1:Nat)) d)).length (λ i=>(im (aE (bV (m+(1:Nat)) d))).getD i (0:Int)) λ i=>(ps (0:Nat)).as ((10:Nat)+i)).toList.reverse.toArray.size≤(1000:Nat),(ah (aE (bV (m+(1:Nat)) d)).length (λ i=>(im (aE (bV (m+(1:Nat)) d))).getD i (0:Int)) λ i=>(ps (0:Nat)).as ((10:Nat)+i)).toList.reverse.toArray.size=m+(1:Nat),(ah (aE (bV (m+(1:Nat)) d)).length (λ i=>(im (aE (bV (m+(1:Nat)) d))).getD i (0:Int)) λ i=>(ps (0:Nat)).as ((10:Nat)+i)).size≤(1000:Nat),IntsAre (ah (m+(1:Nat)) (λ k=>(↑(d k):Int)) td).toList (aE (bV (m+(1:Nat)) d))∧(aE (bV (m+(1:Nat)) d)).length < (64:Nat)]⟩) rfl (by apply bq c;kernel_rfl) (by decide) (λ a ha=>nomatch ha) rfl rfl rfl rfl ?_ λ h g t2 L' _ md=>?_
 ·exact aa (by lia:m+1 < 1000) (aa (by rw [pV hl];lia) (aa (pV hl _) (aa (by rw [au];have:=(tQ (d:=d) (td:=td) hm).2;lia) (aa (tQ hm) ae))))
 obtain ⟨t,e⟩:=uG hl (ps 0).as
 rw [e] at L'
 refine BP (v:=eE (bV (m+1) d)) (by lia) _ (λ hex h g t3 L3=>?_) (λ hall h g t3 kv L3=>?_) (m+1) 0 (Nat.zero_add _) (λ j hj=>absurd hj (Nat.not_lt_zero _)) h g t2 none L'
 ·obtain ⟨M2,hM2⟩:=bd h
  refine ma R [] am hM2 [] L3 md λ ps2=>?_
  refine ba [] 0 [] (λ W=>⟨.ok (.ret (.bool false)),[],[]⟩) rfl (by apply bq c;kernel_rfl) (by decide) (λ a ha=>nomatch ha) ae λ h' g' t4 L8=>?_
  have z:=hR h' g' t4 L8
  rw [DF hl hex] at z
  exact z
 ·obtain ⟨M2,hM2⟩:=bd h
  have z0:=hR
  rw [BF hl hall] at z0
  cases hb:Nat.beq (fK (bV (m+1) (eE (bV (m+1) d))) % 2) 0
  ·rw [hb] at z0
   refine ma R [nr (ah (m+1) (λ i=>(eE (bV (m+1) d) i:Int)) t) (aE (bV (m+1) (eE (bV (m+1) d)))) (fK (bV (m+1) (eE (bV (m+1) d))):Nat),uD,su (((fK (bV (m+1) (eE (bV (m+1) d))):Nat):Int).fmod 2) 0 false] am hM2 [.k,.k,U,.c 0 [2],.e,.c 1 [],.e,.c 2 []] L3 md λ ps2=>?_
   refine ba [] 3 [] (λ W=>⟨.ok (.ret (.bool false)),[],[((↑(fK (bV (m+(1:Nat)) (eE (bV (m+(1:Nat)) d)))):Int).fmod (2:Int)==(0:Int))=false,ey (ah (m+(1:Nat)) (λ i=>(↑(eE (bV (m+(1:Nat)) d) i):Int)) t) (aE (bV (m+(1:Nat)) (eE (bV (m+(1:Nat)) d))))∧(aE (bV (m+(1:Nat)) (eE (bV (m+(1:Nat)) d)))).sum=(↑(fK (bV (m+(1:Nat)) (eE (bV (m+(1:Nat)) d)))):Int)]⟩) rfl (by apply bq c;kernel_rfl) (by decide) (λ a ha=>nomatch ha) (aa ((tK _).trans hb) (aa lV ae)) λ h' g' t4 L8=>?_
   exact z0 h' g' t4 L8
  ·rw [hb] at z0
   refine ma R [nr (ah (m+1) (λ i=>(eE (bV (m+1) d) i:Int)) t) (aE (bV (m+1) (eE (bV (m+1) d)))) (fK (bV (m+1) (eE (bV (m+1) d))):Nat),uD,su (((fK (bV (m+1) (eE (bV (m+1) d))):Nat):Int).fmod 2) 0 true] am hM2 [.k,.k,U,.c 0 [2],.e,.c 1 [],.e,.c 2 []] L3 md λ ps2=>?_
   refine ba [] 3 [] (λ W=>⟨.ok (.ret (.bool true)),[],[((↑(fK (bV (m+(1:Nat)) (eE (bV (m+(1:Nat)) d)))):Int).fmod (2:Int)==(0:Int))=true,ey (ah (m+(1:Nat)) (λ i=>(↑(eE (bV (m+(1:Nat)) d) i):Int)) t) (aE (bV (m+(1:Nat)) (eE (bV (m+(1:Nat)) d))))∧(aE (bV (m+(1:Nat)) (eE (bV (m+(1:Nat)) d)))).sum=(↑(fK (bV (m+(1:Nat)) (eE (bV (m+(1:Nat)) d)))):Int)]⟩) rfl (by apply bq c;kernel_rfl) (by decide) (λ a ha=>nomatch ha) (aa ((tK _).trans hb) (aa lV ae)) λ h' g' t4 L8=>?_
   exact z0 h' g' t4 L8
end
set_option backward.match.sparseCases true
section
open PySem.W.ZFast
section
variable {M:Model}{A:Around}{c:Code}
theorem kH {vs:List Value}{m:Sem α}{Q:α→Shared→Prop}(h:wpOwn M A c m Q E s):wpOwn M A c (holding vs m) Q E s:=
 λ Γ p hc hΓ=>by rw [Sem.wp_holding];exact h Γ p hc hΓ
theorem oQ {test:PySem.Expr}{body orelse:List Stmt}{Q:Flow→Shared→Prop}(h:wpOwn M A c (isTrue test env (eval test env)) (λ t s'=>wpOwn M A c (execs (if t then body else orelse) env) Q E s') E s):wpOwn M A c (execs [.If test body orelse pos] env) Q E s:=by
 rw [iL]
 refine cJ (t':=(standAt pos>>=λ _=>isTrue test env (eval test env)>>=λ t=>if t then execs body env else execs orelse env)) (by rfl) ?_
 refine bG (eY (wpAny_standAt ?_))
 refine bG (wpOwn_mono h (λ t s' h'=>?_) λ _ _ h'=>h')
 cases t
 ·exact h'
 ·exact h'
theorem uV (h:wpOwn M A c (isTrue e1 env (eval e1 env)) (λ t s'=>match t with|true=>Q true s'|false=>wpOwn M A c (isTrue e2 env (eval e2 env)) Q E s') E s):wpOwn M A c (isTrue (.BoolOp .Or [e1,e2] pos) env (eval (.BoolOp .Or [e1,e2] pos) env)) Q E s:=by
 refine cJ (t':=isTrue e1 env (eval e1 env)>>=λ t=>match BoolOp.Or,t with|.And,false=>pure false|.Or,true=>pure true|_,_=>isTrue e2 env (eval e2 env)>>=λ t=>match BoolOp.Or,t with|.And,false=>pure false|.Or,true=>pure true|_,_=>pure false) (by rfl) ?_
 refine bG (wpOwn_mono h (λ t s' h'=>?_) λ _ _ h'=>h')
 cases t
 ·refine bG (wpOwn_mono h' (λ t s' h'=>?_) λ _ _ h'=>h')
  cases t
  ·exact aP h'
  ·exact aP h'
 ·exact aP h'
theorem pU (h:wpOwn M A c (isTrue e1 env (eval e1 env)) (λ t s'=>match t with|false=>Q false s'|true=>wpOwn M A c (isTrue e2 env (eval e2 env)) Q E s') E s):wpOwn M A c (isTrue (.BoolOp .And [e1,e2] pos) env (eval (.BoolOp .And [e1,e2] pos) env)) Q E s:=by
 refine cJ (t':=isTrue e1 env (eval e1 env)>>=λ t=>match BoolOp.And,t with|.And,false=>pure false|.Or,true=>pure true|_,_=>isTrue e2 env (eval e2 env)>>=λ t=>match BoolOp.And,t with|.And,false=>pure false|.Or,true=>pure true|_,_=>pure true) (by rfl) ?_
 refine bG (wpOwn_mono h (λ t s' h'=>?_) λ _ _ h'=>h')
 cases t
 ·exact aP h'
 ·refine bG (wpOwn_mono h' (λ t s' h'=>?_) λ _ _ h'=>h')
  cases t
  ·exact aP h'
  ·exact aP h'
end
section
variable {prog:Program}{A:Around}{c:Code}
theorem nC {l r:PySem.Expr}{a b:Addr}{oa ob:Obj}(h:wpOwn (model prog w) A c (eval l env) (λ v s1=>v=.ref a∧wpOwn (model prog w) A c (markedBehindIn .Is r (eval r env)) (λ u s2=>u=.ref b∧a≠b∧s2.heap.get? a=some oa∧s2.heap.get? b=some ob∧oa.cls≠.type "tuple"∧Q false s2) E s1) E s):wpOwn (model prog w) A c (isTrue (.Compare l [.Is] [r] pos) env (eval (.Compare l [.Is] [r] pos) env)) Q E s:=by
 refine cJ (t':=eval l env>>=λ x=>holding [x] (markedBehindIn .Is r (eval r env))>>=λ rv=>standAt pos>>=λ _=>operate [x,rv] (compareOp .Is x rv)>>=λ v=>holding [v] (truthy v)) (by rfl) ?_
 refine bG (wpOwn_mono h (λ v s1 h1=>?_) λ _ _ h'=>h')
 obtain ⟨rfl,h1⟩:=h1
 refine bG (kH (wpOwn_mono h1 (λ u s2 h2=>?_) λ _ _ h'=>h'))
 obtain ⟨rfl,hne,ha,hb,hc,hQ⟩:=h2
 refine bG (eY (wpAny_standAt ?_))
 refine bG (eY (wpAny_operate' ?_))
 show wpAny _ _ (isSame (.ref a) (.ref b)>>=λ x=>(pure (Value.bool x):Sem Value)) _ _ _
 refine af (wpAny_isSame_ref_other hne ha hb hc (aA ?_))
 refine kH (cJ (t':=pure false) (by rfl) (aP hQ))
end
set_option backward.match.sparseCases false
end
section
variable {A:Around}
noncomputable abbrev p3:Around:=⟨none,630,none,none,2130⟩
noncomputable def b4 (i:Nat):Stmt:=fe (fB (st 4)) i
noncomputable def g5 (N:Addr):Env:={ scope:=fS (st 4),locals:=N,globals:=3,cells:=[],qual:="countOf.<locals>.",func:=some 42,code:=.ref 41,frame:=some N,builtins:=0 }
noncomputable abbrev pW (N it:Addr):Code:=.forLoop (m6 (b4 1)) (.ref it) (bA (b4 1)) (ng (b4 1)) (g5 N)
noncomputable def H0:Stmt→List Stmt
 |.If _ b _ _=>b
 |_=>[]
noncomputable def Ik:Stmt→Pos
 |.If _ _ _ p=>p
 |_=>default
noncomputable def EB:PySem.Expr→Pos
 |.Compare _ _ _ p=>p
 |.BoolOp _ _ p=>p
 |_=>default
noncomputable def uI:Stmt:=fe (bA (b4 1)) 0
theorem GA:bA (b4 1)=[.If (.BoolOp .Or [.Compare (sP (qU 0 (cO uI))) [.Is] [mJ (qU 0 (cO uI))] (EB (qU 0 (cO uI))),qU 1 (cO uI)] (EB (cO uI))) (H0 uI) [] (Ik uI)]:=by kernel_rfl
noncomputable def dG (w:World) (P:KF) (xs:VA) (es:List Nat):Prop:=xs.size=es.length∧es.length≤100∧∀ j,j < es.length→∃ a t v,xs[j]?=some (.ref a)∧KP w P a=some (ab #[.int (es.getD j 0:Nat) t] v)
theorem xo (hea:KP w P ea=some (ab xs nn)) (hx:xs[i]?=some (.ref a)) (R:RP)
  (L:ag (KP w P) H hh [] ([(N,br w [en "a" ta (.ref ea),en "b" tb2 (.ref b),en "count" tc (.int (cv:Nat) uc)] fn),(it,cr ea i)]++[]) [(b,ab #[.int (k:Nat) tb] bn)])
  (hQ:∀ (h:Heap) (g:BG) (t' fn:Nat) (ti:Tok),ag (KP w P) H h [] ([(N,br w [en "a" ta (.ref ea),en "b" tb2 (.ref b),en "count" tc (.int (cv:Nat) uc),en "i" ti (.ref a)] fn),(it,cr ea (i+1:Nat))]++[]) [(b,ab #[.int (k:Nat) tb] bn)]→
   wpOwn (model pg w) p3 (pW N it) (execs (bA (b4 1)) (g5 N)) (λ f s₃=>match f with
    |.next|.cont=>codeAny (model pg w) p3 (pW N it) R s₃
    |.brk=>R (.ok .next) s₃
    |.ret v=>R (.ok (.ret v)) s₃) NE ⟨h,g,dr,t',os⟩):
  codeAny (model pg w) p3 (pW N it) R ⟨hh,gg,dr,tt,os⟩:=by
 obtain ⟨M,hM⟩:=bd hh
 have hpf:=f9 hea am
 obtain ⟨w,c,rfl⟩:=cB w
 refine jB ?_
 refine w2 [dl xs i (.ref a)] hpf L hM [ay,.e,ay,.c 0 [1,2000]] λ ps=>?_
 refine bh rfl [0,1] 2 [] (λ W=>⟨.ok (.ret (.ref a)),[(N,br w [("a",ta,.ref ea),("b",tb2,.ref b),("count",tc,.int ((↑cv:Int)) uc)] fn),(it,i4 ea (i+1))],[xs[i]?=some (Value.ref a)]⟩) rfl (some (.ref a)) (by apply bq c;kernel_rfl) rfl p5 (by decide) (λ a ha=>nomatch ha) (aa hx ae) λ h g t2 L2=>?_
 obtain ⟨M2,hM2⟩:=bd h
 refine yl [] am L2 hM2 [U,U] λ ps1=>?_
 refine bh rfl [0,1] 2 [] (λ W=>⟨.ok .next,[(N,br w [("a",ta,.ref ea),("b",tb2,.ref b),("count",tc,.int ((↑cv:Int)) uc),("i",t2,.ref a)] (fn+1)),(it,i4 ea (i+1))],[]⟩) rfl () (by apply bq c;kernel_rfl) rfl qN (by decide) (λ a ha=>nomatch ha) ae λ h g t3 L3=>?_
 exact hQ h g t3 _ _ L3
theorem zQ {vj:Value}{tj:Tok}(hea:KP w P ea=some (ab xs nn)) (hx:xs[i]?=some (.ref a)) (R:RP)
  (L:ag (KP w P) H hh [] ([(N,br w [en "a" ta (.ref ea),en "b" tb2 (.ref b),en "count" tc (.int (cv:Nat) uc),en "i" tj vj] fn),(it,cr ea i)]++[]) [(b,ab #[.int (k:Nat) tb] bn)])
  (hQ:∀ (h:Heap) (g:BG) (t' fn:Nat) (ti:Tok),ag (KP w P) H h [] ([(N,br w [en "a" ta (.ref ea),en "b" tb2 (.ref b),en "count" tc (.int (cv:Nat) uc),en "i" ti (.ref a)] fn),(it,cr ea (i+1:Nat))]++[]) [(b,ab #[.int (k:Nat) tb] bn)]→
   wpOwn (model pg w) p3 (pW N it) (execs (bA (b4 1)) (g5 N)) (λ f s₃=>match f with
    |.next|.cont=>codeAny (model pg w) p3 (pW N it) R s₃
    |.brk=>R (.ok .next) s₃
    |.ret v=>R (.ok (.ret v)) s₃) NE ⟨h,g,dr,t',os⟩):
  codeAny (model pg w) p3 (pW N it) R ⟨hh,gg,dr,tt,os⟩:=by
 obtain ⟨M,hM⟩:=bd hh
 have hpf:=f9 hea am
 obtain ⟨w,c,rfl⟩:=cB w
 refine jB ?_
 refine w2 [dl xs i (.ref a)] hpf L hM [ay,.e,ay,.c 0 [1,2000]] λ ps=>?_
 refine bh rfl [0,1] 2 [] (λ W=>⟨.ok (.ret (.ref a)),[(N,br w [("a",ta,.ref ea),("b",tb2,.ref b),("count",tc,.int ((↑cv:Int)) uc),("i",tj,vj)] fn),(it,i4 ea (i+1))],[xs[i]?=some (Value.ref a)]⟩) rfl (some (.ref a)) (by apply bq c;kernel_rfl) rfl p5 (by decide) (λ a ha=>nomatch ha) (aa hx ae) λ h g t2 L2=>?_
 obtain ⟨M2,hM2⟩:=bd h
 refine yl [] am L2 hM2 [U,U] λ ps1=>?_
 refine bh rfl [0,1] 2 [] (λ W=>⟨.ok .next,[(N,br w [("a",ta,.ref ea),("b",tb2,.ref b),("count",tc,.int ((↑cv:Int)) uc),("i",tj,.ref a)] fn),(it,i4 ea (i+1))],[]⟩) rfl () (by apply bq c;kernel_rfl) rfl qN (by decide) (λ a ha=>nomatch ha) ae λ h g t3 L3=>?_
 exact hQ h g t3 _ _ L3
noncomputable def kT:Bool→Flow:=λ b=>.ret (.bool b)
theorem qH:∀ a b:Bool,kT a=kT b→a=b:=λ a b h=>by
 have:=Flow.ret.inj h
 exact Value.bool.inj this
theorem CZ {x:Nat}{t u:Tok}{r:Bool}(h:((x:Int)==(k:Int))=r):bx #[.int (x:Nat) t] #[.int (k:Nat) u] r:=by
 refine .inr ⟨rfl,λ _=>r,λ j h1 h2=>?_,by induction r<;>rfl⟩
 have:j=0:=by simpa using h1
 subst this
 exact .inr (.inl ⟨_,_,_,_,rfl,rfl,h.symm⟩)
theorem FS {v x:Nat}(ha:KP w P a=some (ab #[.int (x:Nat) tx] v)) (hk:((x:Int)==(k:Int))=true) (R:RP)
  (L:ag (KP w P) H hh [] ([(N,br w [en "a" ta (.ref ea),en "b" tb2 (.ref b),en "count" tc (.int (cv:Nat) uc),en "i" ti (.ref a)] fn),(it,cr ea (i+1:Nat))]++[]) [(b,ab #[.int (k:Nat) tb] bn)])
  (hR:∀ (h:Heap) (g:BG) (t' fn:Nat) (uc:Tok),ag (KP w P) H h [] ([(N,br w [en "a" ta (.ref ea),en "b" tb2 (.ref b),en "count" tc (.int (cv+1:Nat) uc),en "i" ti (.ref a)] fn),(it,cr ea (i+1:Nat))]++[]) [(b,ab #[.int (k:Nat) tb] bn)]→codeAny (model pg w) p3 (pW N it) R ⟨h,g,dr,t',os⟩):
  wpOwn (model pg w) p3 (pW N it) (execs (bA (b4 1)) (g5 N)) (λ f s₃=>match f with
   |.next|.cont=>codeAny (model pg w) p3 (pW N it) R s₃
   |.brk=>R (.ok .next) s₃
   |.ret v=>R (.ok (.ret v)) s₃) NE ⟨hh,gg,dr,tt,os⟩:=by
 obtain ⟨M,hM⟩:=bd hh
 have hne:a≠b:=λ e=>by
  have:=L.offo _ (.head _)
  rw [←e,ha] at this;cases this
 have hpf:=f9 ha am
 rw [GA]
 obtain ⟨w,c,rfl⟩:=cB w
 refine oQ (uV (nC (a:=a) (b:=b) (oa:=ab #[.int (x:Nat) tx] v) (ob:=ab #[.int (k:Nat) tb] bn) (cJ (t':=fY (sP (qU 0 (cO uI))) (g5 N)) (by rw [PySem.W.ZFast.ze14044960220447912780]) ?_)))
 refine dj Flow.ret (V:=vc _ P [] [] [(b,ab #[.int (k:Nat) tb] bn)] H [] M tt gg dr os (cz Flow.ret _ NE)) (cR am) [U] rfl L hM λ ps=>?_
 refine bh rfl [0,1] 2 [] (λ W=>⟨.ok (.ret (.ref a)),[(N,br w [("a",ta,.ref ea),("b",tb2,.ref b),("count",tc,.int ((↑cv:Int)) uc),("i",ti,.ref a)] fn),(it,i4 ea (i+1))],[]⟩) rfl (.ref a) (by apply bq c;kernel_rfl) rfl kZ (by decide) (λ a ha=>nomatch ha) ae λ h g t2 L1=>⟨rfl,?_⟩
 obtain ⟨M2,hM2⟩:=bd h
 refine cJ (t':=PySem.W.ZFast.zw10513115210890433525 .Is (mJ (qU 0 (cO uI))) (fY (mJ (qU 0 (cO uI))) (g5 N))) (by rw [PySem.W.ZFast.ze14044960220447912780,PySem.W.ZFast.ze10513115210890433525]) ?_
 refine dj Flow.ret (V:=vc _ P [] [] [(b,ab #[.int (k:Nat) tb] bn)] H [] M2 t2 g dr os (cz Flow.ret _ NE)) (cR am) [U] rfl L1 hM2 λ ps1=>?_
 refine bh rfl [0,1] 2 [] (λ W=>⟨.ok (.ret (.ref b)),[(N,br w [("a",ta,.ref ea),("b",tb2,.ref b),("count",tc,.int ((↑cv:Int)) uc),("i",ti,.ref a)] fn),(it,i4 ea (i+1))],[]⟩) rfl (.ref b) (by apply bq c;kernel_rfl) rfl kZ (by decide) (λ a ha=>nomatch ha) ae λ h g t3 L2=>⟨rfl,hne,L2.kin _ _ ha,L2.hold _ (.head _),(λ e=>absurd (Value.type.inj e) (by decide)),?_⟩
 obtain ⟨M3,hM3⟩:=bd h
 refine Sm.own (lI (bp (by kernel_rfl)) 2 _ _) ?_
 refine dj kT (V:=vc _ P [yJ true] [(a,ab #[.int (x:Nat) tx] v)] [(b,ab #[.int (k:Nat) tb] bn)] H [] M3 t3 g dr os (cz kT _ NE)) (cR hpf) [U,U,aL,aD,aL,.e,aL,.c 0 [2000,1000]] rfl L2 hM3 λ ps2=>?_
 refine bh rfl [0,1] 2 [] (λ W=>⟨.ok (.ret (.bool true)),[(N,br w [("a",ta,.ref ea),("b",tb2,.ref b),("count",tc,.int ((↑cv:Int)) uc),("i",ti,.ref a)] fn),(it,i4 ea (i+1))],[bx #[Value.int (↑x:Int) tx] #[Value.int (↑k:Int) tb] true]⟩) rfl true (by apply bq c;kernel_rfl) rfl qH (by decide) (λ a ha=>nomatch ha) (aa (CZ hk) ae) λ h g t4 L3=>?_
 show wpOwn _ _ _ (execs (H0 uI) (g5 N)) _ _ _
 obtain ⟨M4,hM4⟩:=bd h
 refine wW [] am (bp (by kernel_rfl)) L3 hM4 [U,.e,.e,U,U] λ ps3=>?_
 refine bt rfl [0,1] 2 [] (λ W=>⟨.ok .next,[(N,br w [("a",ta,.ref ea),("b",tb2,.ref b),("count",tc,.int (((↑cv:Int))+1) (t4+1)),("i",ti,.ref a)] fn),(it,i4 ea (i+1))],[]⟩) rfl .next (by apply bq c;kernel_rfl) rfl (by decide) (λ a ha=>nomatch ha) ae λ h g t5 L5=>?_
 exact hR h g t5 _ _ L5
theorem Gr {v x:Nat}(ha:KP w P a=some (ab #[.int (x:Nat) tx] v)) (hk:((x:Int)==(k:Int))=false) (R:RP)
  (L:ag (KP w P) H hh [] ([(N,br w [en "a" ta (.ref ea),en "b" tb2 (.ref b),en "count" tc (.int (cv:Nat) uc),en "i" ti (.ref a)] fn),(it,cr ea (i+1:Nat))]++[]) [(b,ab #[.int (k:Nat) tb] bn)])
  (hR:∀ (h:Heap) (g:BG) (t' fn:Nat) (uc:Tok),ag (KP w P) H h [] ([(N,br w [en "a" ta (.ref ea),en "b" tb2 (.ref b),en "count" tc (.int (cv:Nat) uc),en "i" ti (.ref a)] fn),(it,cr ea (i+1:Nat))]++[]) [(b,ab #[.int (k:Nat) tb] bn)]→codeAny (model pg w) p3 (pW N it) R ⟨h,g,dr,t',os⟩):
  wpOwn (model pg w) p3 (pW N it) (execs (bA (b4 1)) (g5 N)) (λ f s₃=>match f with
   |.next|.cont=>codeAny (model pg w) p3 (pW N it) R s₃
   |.brk=>R (.ok .next) s₃
   |.ret v=>R (.ok (.ret v)) s₃) NE ⟨hh,gg,dr,tt,os⟩:=by
 obtain ⟨M,hM⟩:=bd hh
 have hne:a≠b:=λ e=>by
  have:=L.offo _ (.head _)
  rw [←e,ha] at this;cases this
 have hpf:=f9 ha am
 rw [GA]
 obtain ⟨w,c,rfl⟩:=cB w
 refine oQ (uV (nC (a:=a) (b:=b) (oa:=ab #[.int (x:Nat) tx] v) (ob:=ab #[.int (k:Nat) tb] bn) (cJ (t':=fY (sP (qU 0 (cO uI))) (g5 N)) (by rw [PySem.W.ZFast.ze14044960220447912780]) ?_)))
 refine dj Flow.ret (V:=vc _ P [] [] [(b,ab #[.int (k:Nat) tb] bn)] H [] M tt gg dr os (cz Flow.ret _ NE)) (cR am) [U] rfl L hM λ ps=>?_
 refine bh rfl [0,1] 2 [] (λ W=>⟨.ok (.ret (.ref a)),[(N,br w [("a",ta,.ref ea),("b",tb2,.ref b),("count",tc,.int ((↑cv:Int)) uc),("i",ti,.ref a)] fn),(it,i4 ea (i+1))],[]⟩) rfl (.ref a) (by apply bq c;kernel_rfl) rfl kZ (by decide) (λ a ha=>nomatch ha) ae λ h g t2 L1=>⟨rfl,?_⟩
 obtain ⟨M2,hM2⟩:=bd h
 refine cJ (t':=PySem.W.ZFast.zw10513115210890433525 .Is (mJ (qU 0 (cO uI))) (fY (mJ (qU 0 (cO uI))) (g5 N))) (by rw [PySem.W.ZFast.ze14044960220447912780,PySem.W.ZFast.ze10513115210890433525]) ?_
 refine dj Flow.ret (V:=vc _ P [] [] [(b,ab #[.int (k:Nat) tb] bn)] H [] M2 t2 g dr os (cz Flow.ret _ NE)) (cR am) [U] rfl L1 hM2 λ ps1=>?_
 refine bh rfl [0,1] 2 [] (λ W=>⟨.ok (.ret (.ref b)),[(N,br w [("a",ta,.ref ea),("b",tb2,.ref b),("count",tc,.int ((↑cv:Int)) uc),("i",ti,.ref a)] fn),(it,i4 ea (i+1))],[]⟩) rfl (.ref b) (by apply bq c;kernel_rfl) rfl kZ (by decide) (λ a ha=>nomatch ha) ae λ h g t3 L2=>⟨rfl,hne,L2.kin _ _ ha,L2.hold _ (.head _),(λ e=>absurd (Value.type.inj e) (by decide)),?_⟩
 obtain ⟨M3,hM3⟩:=bd h
 refine Sm.own (lI (bp (by kernel_rfl)) 2 _ _) ?_
 refine dj kT (V:=vc _ P [yJ false] [(a,ab #[.int (x:Nat) tx] v)] [(b,ab #[.int (k:Nat) tb] bn)] H [] M3 t3 g dr os (cz kT _ NE)) (cR hpf) [U,U,aL,aD,aL,.e,aL,.c 0 [2000,1000]] rfl L2 hM3 λ ps2=>?_
 refine bh rfl [0,1] 2 [] (λ W=>⟨.ok (.ret (.bool false)),[(N,br w [("a",ta,.ref ea),("b",tb2,.ref b),("count",tc,.int ((↑cv:Int)) uc),("i",ti,.ref a)] fn),(it,i4 ea (i+1))],[bx #[Value.int (↑x:Int) tx] #[Value.int (↑k:Int) tb] false]⟩) rfl false (by apply bq c;kernel_rfl) rfl qH (by decide) (λ a ha=>nomatch ha) (aa (CZ hk) ae) λ h g t4 L3=>?_
 show wpOwn _ _ _ (execs [] (g5 N)) _ _ _
 rw [execs_nil]
 exact aP (hR h g t4 _ _ L3)
end
section
variable {A:Around}
theorem DV (hea:KP w P ea=some (ab xs nn)) (R:RP)
  (L:ag (KP w P) H hh [] ([(N,fo),(it,cr ea xs.size)]++[]) old)
  (hR:∀ (h:Heap) (g:BG) (t':Nat),ag (KP w P) H h [] ([(N,fo)]++[]) old→R (.ok .next) ⟨h,g,dr,t',os⟩):
  codeAny (model pg w) p3 (pW N it) R ⟨hh,gg,dr,tt,os⟩:=by
 obtain ⟨M,hM⟩:=bd hh
 have hpf:=f9 hea am
 refine dv [yb xs] hpf [ay,.e,ay,.c 0 [1,2000],U,.e] L hM λ ps=>?_
 refine ba [2] 4 [] (λ W=>⟨.ok .next,[(N,fo)],[]⟩) rfl (by kernel_rfl) (by decide) (λ a ha=>nomatch ha) ae λ h' g' t' L'=>?_
 exact hR _ _ _ L'
theorem re (h:i < es.length):(es.take (i+1)).count k=(es.take i).count k+(if es.getD i 0=k then 1 else 0):=by
 rw [List.take_add_one,dT h,List.count_append,hW,dT h]
 simp [List.count_cons]
theorem Bs (hea:KP w P ea=some (ab xs nn)) (hE:dG w P xs es) (R:RP)
  (hR:∀ (h:Heap) (g:BG) (t' fn:Nat) (uc:Tok) (js:List (Str×Tok×Value)),(js=[]∨∃ t v,js=[en "i" t v])→ag (KP w P) H h [] ([(N,br w (en "a" ta (.ref ea)::en "b" tb2 (.ref b)::en "count" tc (.int (es.count k:Nat) uc)::js) fn)]++[]) [(b,ab #[.int (k:Nat) tb] bn)]→R (.ok .next) ⟨h,g,dr,t',os⟩):
  ∀ (u i:Nat),i+u=es.length→∀ (hh:Heap) (gg:BG) (tt fn cv:Nat) (uc:Tok) (js:List (Str×Tok×Value)),cv=(es.take i).count k→(js=[]∨∃ t v,js=[en "i" t v])→
  ag (KP w P) H hh [] ([(N,br w (en "a" ta (.ref ea)::en "b" tb2 (.ref b)::en "count" tc (.int (cv:Nat) uc)::js) fn),(it,cr ea i)]++[]) [(b,ab #[.int (k:Nat) tb] bn)]→codeAny (model pg w) p3 (pW N it) R ⟨hh,gg,dr,tt,os⟩:=by
 intro u
 induction u with
 |zero=>
  intro i hi hh gg tt fn cv uc js hc hj L
  have:i=xs.size:=by rw [hE.1];lia
  subst this
  refine DV hea R L λ h g t' L'=>?_
  have e:cv=es.count k:=by rw [hc,hE.1,List.take_length]
  subst e
  exact hR h g t' fn uc js hj L'
 |succ u ih=>
  intro i hi hh gg tt fn cv uc js hc hj L
  have hin:i < es.length:=by lia
  obtain ⟨a,t,v,e1,e2⟩:=hE.2.2 i hin
  have step:∀ (h:Heap) (g:BG) (t' fn:Nat) (ti:Tok),ag (KP w P) H h [] ([(N,br w (en "a" ta (.ref ea)::en "b" tb2 (.ref b)::en "count" tc (.int (cv:Nat) uc)::[en "i" ti (.ref a)]) fn),(it,cr ea (i+1:Nat))]++[]) [(b,ab #[.int (k:Nat) tb] bn)]→
    wpOwn (model pg w) p3 (pW N it) (execs (bA (b4 1)) (g5 N)) (λ f s₃=>match f with
    |.next|.cont=>codeAny (model pg w) p3 (pW N it) R s₃
    |.brk=>R (.ok .next) s₃
    |.ret v=>R (.ok (.ret v)) s₃) NE ⟨h,g,dr,t',os⟩:=λ h g t' fn ti L=>by
   have cs:=re (k:=k) hin
   cases hk:((es.getD i 0:Int)==(k:Int)) with
   |true=>
    have hk2:es.getD i 0=k:=by have:=beq_iff_eq.mp hk;lia
    refine FS e2 hk R L λ h g t' fn uc L'=>ih (i+1) (by lia) h g t' fn (cv+1) uc [en "i" ti (.ref a)] ?_ (.inr ⟨_,_,rfl⟩) L'
    rw [cs,if_pos hk2,hc]
   |false=>
    have hk2:¬ es.getD i 0=k:=λ e=>by rw [e] at hk;simp at hk
    refine Gr e2 hk R L λ h g t' fn uc L'=>ih (i+1) (by lia) h g t' fn cv uc [en "i" ti (.ref a)] ?_ (.inr ⟨_,_,rfl⟩) L'
    rw [cs,if_neg hk2,hc];rfl
  rcases hj with rfl|⟨tj,vj,rfl⟩
  ·exact xo hea e1 R L step
  ·exact zQ hea e1 R L step
theorem Bo (hea:KP w P ea=some (ab xs nn)) (hE:dG w P xs es) (R:RP) (L:ag (KP w P) hh hh [] [] [(b,ab #[.int (k:Nat) tb] bn)])
  (hR:∀ (h:Heap) (g:BG) (t':Nat) (u:Tok),ag (KP w P) hh h [] [] [(b,ab #[.int (k:Nat) tb] bn)]→R (.ok (.ret (.int (es.count k:Nat) u))) ⟨h,g,dr,t',os⟩):codeAny (model pg w) AF (.call (.ref 42) ⟨[.ref ea,.ref b],[]⟩) R ⟨hh,gg,dr,tt,os⟩:=by
 obtain ⟨N,hN⟩:=bd hh
 have hpf:=f9 hea am
 obtain ⟨w,c,rfl⟩:=cB w
 refine dv [] hpf [.k,U,U,U,U,.e,U,U,U,aL,aL,.e,aL,.e,U,.s] L hN λ ps=>?_
 refine gU p3 [1,0] 2 [] (λ W=>⟨pW N (N+1),true,none,[(N,br w [("a",tt,.ref ea),("b",tt+1,.ref b),("count",tt+3,.int 0 (tt+2))] (3)),(N+1,cr ea 0)],[]⟩) rfl (by apply bq c;kernel_rfl) (by decide) (λ a ha=>nomatch ha) rfl rfl rfl rfl ae λ h g t2 L' _ md=>?_
 refine Bs hea hE _ (λ h g t3 fn uc js hj L3=>?_) es.length 0 (Nat.zero_add _) h g t2 _ 0 _ [] rfl (.inl rfl) L'
 obtain ⟨M2,hM2⟩:=bd h
 rcases hj with rfl|⟨tj,vj,rfl⟩
 ·refine ma R [] am hM2 [U] L3 md λ ps2=>?_
  refine ba [] 1 [] (λ W=>⟨.ok (.ret (.int ((↑(List.count k es):Int)) uc)),[],[]⟩) rfl (by apply bq c;kernel_rfl) (by decide) (λ a ha=>nomatch ha) ae λ h' g' t4 L8=>?_
  exact hR h' g' t4 _ L8
 ·refine ma R [] am hM2 [U] L3 md λ ps2=>?_
  refine ba [] 1 [] (λ W=>⟨.ok (.ret (.int ((↑(List.count k es):Int)) uc)),[],[]⟩) rfl (by apply bq c;kernel_rfl) (by decide) (λ a ha=>nomatch ha) ae λ h' g' t4 L8=>?_
  exact hR h' g' t4 _ L8
end
section
variable {A:Around}
noncomputable def Ha (i:Nat):Stmt:=fe (fB (st 14)) i
noncomputable def HQ:PySem.Expr→PySem.Expr
 |.BinOp l _ _ _=>l
 |_=>default
noncomputable def dU:Stmt:=Ha 4
noncomputable def FT:dQ w P:=⟨sk "int.__pow__" (fF λ a b=>⟨.i 1000000000,[.v (.int a 0) (.int 10 0),.v (.int b 0) (.int 9 0)],[]⟩),
 eA w P (F.slot_int_pow).plain F.entry_int_pow _ λ as r h hq hp=>by
  obtain ⟨a,t,b,u,rfl,rfl⟩:=de h
  have h0:a=10:=(Value.int.inj (hq _ (.head _))).1
  have h1:b=9:=(Value.int.inj (hq _ bU)).1
  subst h0 h1
  have z:=AutoIntG2.int___pow___int_int_4 10 t 9 u (by decide) (by decide) (by decide) (by decide) (by decide+kernel)
  exact z⟩
noncomputable def uC (w:World) (P:KF) (ea nn:Nat) (xs:VA) (es:List Nat) (k:Nat):Sp:=⟨620,2100,false,
 λ c fd=>ew (fI c 42) [(1,λ _=>mB c 1)] fd,
 λ c fd=>⟨.call (.ref 42) ⟨[.ref ea,.ref (aT fd 0)],[]⟩,[],[(aT fd 0,ab #[.int (k:Nat) (bE ((ad (az fd 0)).getD 0 .none))] (ao (az fd 0)))],[],
  λ z=>.ok (.ret (.int (es.count k:Nat) (z 0))),λ z=>[],λ _=>[],λ _=>[],[KP w P ea=some (ab xs nn),dG w P xs es]⟩⟩
theorem sO:bO w (KP w P) (uC w P ea nn xs es k):=by
 rintro c fd r rfl hc ho
 refine ⟨λ _=>rfl,λ h g d t os R L hp x=>?_⟩
 have h0:KP w P ea=some (ab xs nn):=ho _ (.head _)
 have h1:dG w P xs es:=ho _ bU
 refine Bo h0 h1 R L λ h' g' t' u L'=>?_
 exact x (λ i=>u) h' g' t' (λ e=>by cases e) L'
noncomputable def gI (w:World) (P:KF) (m dd dn:Nat) (d:Nat→Nat) (td:Nat→Tok) (b:Bool):Sp:=⟨580,1900,false,
 λ c fd=>none,
 λ c fd=>⟨.call (.ref 139) ⟨[.ref dd],[]⟩,[],[],[],
  λ z=>.ok (.ret (.bool b)),λ z=>[],λ _=>[],λ _=>[],[m≤5∧KP w P dd=some (ab (ah (m+1) (λ k=>(d k:Int)) td) dn)∧hY ((List.range (m+1)).map d)=b]⟩⟩
theorem eD {b:Bool}:bO w (KP w P) (gI w P m dd dn d td b):=by
 rintro c fd r rfl hc ho
 refine ⟨λ _=>rfl,λ h g d' t os R L hp x=>?_⟩
 obtain ⟨h0,h1,h2⟩:m≤5∧KP w P dd=some (ab (ah (m+1) (λ k=>(d k:Int)) td) dn)∧hY ((List.range (m+1)).map d)=b:=ho _ (.head _)
 refine Ax h0 h1 R L λ h' g' t' L'=>?_
 rw [h2]
 exact x (λ i=>0) h' g' t' (λ e=>by cases e) L'
noncomputable def mL:PySem.Expr:=HQ (eh (Ha 1))
theorem rI {fr n:Nat}{v:Nat→Int}{ls:Nat}(hn:n≤20):fq w P AY mL "x" (ah n v t) ls it acc gf (oT mL gf [] fr) [it,acc,gf] [(ls,ab (ah n v t) lv)] (λ l=>l=[]) (ca λ i q=>.int ((v i).fmod 1000000000) q.1) nF:=by
 intro H R dr os i v hv ys ex nw an fn js h g tt hx hy hj L k
 obtain ⟨hi,rfl⟩:=cW hv
 subst hx
 obtain ⟨N,hN⟩:=bd h
 obtain ⟨w,c,rfl⟩:=cB w
 refine dv [dl (ah n v t) i (.int (v i) (t i)),aN,FT,uD] am [U,.e,U,.c 0 [0,1000],aj,aj,aj,.e,.c 2 [],.e,.c 3 [],.e,ay,.c 1 [1],.s] L hN λ ps=>?_
 refine aC AY [0,1,2] 3 nw (λ W=>⟨.compLoop mL 0 (.ref it) (.ref acc) (oT mL gf [] fr),true,none,[(it,i4 ls (i+1)),(acc,ab (ys.push (.int (Int.fmod (v i) 1000000000) ((ps 2).6 0))) ((ps 3).6 0)),(gf,aJ w [("x",g7 js ((ps 0).4),.int (v i) (t i))] (g0 js fn))],[ys.size≤(1000:Nat),(ah n v t)[i]?=some (Value.int (v i) (t i))]⟩) rfl (by apply jq hj c;kernel_rfl) (by decide) rfl rfl rfl rfl rfl ?_ λ h' g' t' L'=>?_
 ·repeat' first|exact ae|refine aa ?_ ?_
  all_goals first
   |lia
   |exact ⟨by lia,by lia⟩
   |exact aG hi
 exact k h' g' t' (_,0,0) _ _ _ [] rfl L'
noncomputable def uw (w:World) (P:KF) (fr:Nat) (n:Nat) (v:Nat→Int):Sp:=ii w 600 2000 mL "x" [(1,λ fd=>mt (bm (az fd 0) 0))] (λ fd=>aT fd 3) (λ fd=>ad (az fd 3)) n (λ fd=>⟨[],"law.<locals>.",158,fr,[],[(aT fd 3,ab (ad (az fd 3)) (ao (az fd 3)))],[],λ _=>[],(ca λ i q=>.int ((v i).fmod 1000000000) q.1),nF,[∃ t,ad (az fd 3)=ah n v t,n≤20]⟩)
theorem rz {fr:Nat}{n:Nat}{v:Nat→Int}:bO w (KP w P) (uw w P fr n v):=by
 refine cC (by decide) (by decide) (by kernel_rfl) (λ fd i q ys=>by simp) (λ fd z=>rfl) λ fd ho hp=>?_
 have h0:=ho _ (.head _)
 have h1:=ho _ bU
 obtain ⟨t,h0⟩:=h0
 dsimp only at h0⊢
 rw [h0]
 exact ⟨_,ab (ah n v t) (ao (az fd 3)),au,.inl (.head _),bT rfl rfl,rI h1⟩
noncomputable def mN:PySem.Expr:=eh (Ha 2)
theorem rK {fr n:Nat}{ls:Nat}(hn:n≤20) (hc:∀ i,c i < 10 ^ 9):fq w P AY mN "x" (ah n (λ i=>(c i:Int)) t) ls it acc gf (oT mN gf [("count",fr+1)] fr) [it,acc,gf] [(fr+1,ak (.int ((m+1:Nat):Int) tk)),(ls,ab (ah n (λ i=>(c i:Int)) t) lv)] (λ l=>l=[]) (ca λ i q=>.int ((c i:Int).fmod ((m+1:Nat):Int)) q.1) nF:=by
 intro H R dr os i v hv ys ex nw an fn js h g tt hx hy hj L k
 obtain ⟨hi,rfl⟩:=cW hv
 subst hx
 obtain ⟨N,hN⟩:=bd h
 obtain ⟨w,cc,rfl⟩:=cB w
 refine dv [dl (ah n (λ i=>(c i:Int)) t) i (.int (c i) (t i)),aN,rn] am [U,.e,U,.c 0 [0,1001],aj,aj,aj,aD,.e,.c 2 [],.e,ay,.c 1 [1],.s] L hN λ ps=>?_
 refine aC AY [0,1,2] 3 nw (λ W=>⟨.compLoop mN 0 (.ref it) (.ref acc) (oT mN gf [("count",fr+1)] fr),true,none,[(it,i4 ls (i+1)),(acc,ab (ys.push (.int (Int.fmod ((↑(c i):Int)) ((↑(m+1):Int))) ((ps 1).6 0))) ((ps 2).6 0)),(gf,aJ w [("x",g7 js ((ps 0).4),.int ((↑(c i):Int)) (t i))] (g0 js fn))],[ys.size≤(1000:Nat),(↑(m+(1:Nat)):Int)≠(0:Int),(ah n (λ i=>(↑(c i):Int)) t)[i]?=some (Value.int (↑(c i):Int) (t i))]⟩) rfl (by apply jq hj cc;kernel_rfl) (by decide) rfl rfl rfl rfl rfl ?_ λ h' g' t' L'=>?_
 ·repeat' first|exact ae|refine aa ?_ ?_
  all_goals first
   |lia
   |exact ⟨by lia,by lia⟩
   |exact aG hi
   |exact j7 ⟨by have:=hc i;lia,by have:=hc i;lia⟩
 exact k h' g' t' (_,0,0) _ _ _ [] rfl L'
noncomputable def tA (w:World) (P:KF) (fr:Nat) (n:Nat) (m:Nat) (c:Nat→Nat):Sp:=ii w 600 2000 mN "x" [(1,λ fd=>fr+1),(1,λ fd=>mt (bm (az fd 0) 0))] (λ fd=>aT fd 4) (λ fd=>ad (az fd 4)) n (λ fd=>⟨[("count",fr+1)],"law.<locals>.",158,fr,[],[(fr+1,ak (.int ((m+1:Nat):Int) (bE (fT (az fd 3))))),(aT fd 4,ab (ad (az fd 4)) (ao (az fd 4)))],[],λ _=>[],(ca λ i q=>.int ((c i:Int).fmod ((m+1:Nat):Int)) q.1),nF,[∃ t,ad (az fd 4)=ah n (λ i=>(c i:Int)) t,n≤20,∀ i,c i < 10 ^ 9]⟩)
theorem sx {fr:Nat}{n:Nat}:bO w (KP w P) (tA w P fr n m c):=by
 refine cC (by decide) (by decide) (by kernel_rfl) (λ fd i q ys=>by simp) (λ fd z=>rfl) λ fd ho hp=>?_
 have h0:=ho _ (.head _)
 have h1:=ho _ bU
 have h2:=ho _ fG
 obtain ⟨t,h0⟩:=h0
 dsimp only at h0⊢
 rw [h0]
 exact ⟨_,ab (ah n (λ i=>(c i:Int)) t) (ao (az fd 4)),au,.inl bU,bT rfl rfl,rK h1 h2⟩
noncomputable def lP:PySem.Expr:=eh (Ha 3)
theorem sb {fr n:Nat}{ls:Nat}(hn:n≤20) (hc:∀ i,c i < 10 ^ 9):fq w P AY lP "x" (ah n (λ i=>(c i:Int)) t) ls it acc gf (oT lP gf [("count",fr+1)] fr) [it,acc,gf] [(fr+1,ak (.int ((m+1:Nat):Int) tk)),(ls,ab (ah n (λ i=>(c i:Int)) t) lv)] (λ l=>l=[]) (ca λ i q=>.int ((c i:Int).fdiv ((m+1:Nat):Int)) q.1) nF:=by
 intro H R dr os i v hv ys ex nw an fn js h g tt hx hy hj L k
 obtain ⟨hi,rfl⟩:=cW hv
 subst hx
 obtain ⟨N,hN⟩:=bd h
 obtain ⟨w,cc,rfl⟩:=cB w
 refine dv [dl (ah n (λ i=>(c i:Int)) t) i (.int (c i) (t i)),aN,uH] am [U,.e,U,.c 0 [0,1001],aj,aj,aj,aD,.e,.c 2 [],.e,ay,.c 1 [1],.s] L hN λ ps=>?_
 refine aC AY [0,1,2] 3 nw (λ W=>⟨.compLoop lP 0 (.ref it) (.ref acc) (oT lP gf [("count",fr+1)] fr),true,none,[(it,i4 ls (i+1)),(acc,ab (ys.push (.int (Int.fdiv ((↑(c i):Int)) ((↑(m+1):Int))) ((ps 1).6 0))) ((ps 2).6 0)),(gf,aJ w [("x",g7 js ((ps 0).4),.int ((↑(c i):Int)) (t i))] (g0 js fn))],[ys.size≤(1000:Nat),(↑(m+(1:Nat)):Int)≠(0:Int),Builtin.divisionGoesByPylong (↑(c i):Int) (↑(m+(1:Nat)):Int)=false,(ah n (λ i=>(↑(c i):Int)) t)[i]?=some (Value.int (↑(c i):Int) (t i))]⟩) rfl (by apply jq hj cc;kernel_rfl) (by decide) rfl rfl rfl rfl rfl ?_ λ h' g' t' L'=>?_
 ·repeat' first|exact ae|refine aa ?_ ?_
  all_goals first
   |lia
   |exact ⟨by lia,by lia⟩
   |exact aG hi
   |exact j7 ⟨by have:=hc i;lia,by have:=hc i;lia⟩
 exact k h' g' t' (_,0,0) _ _ _ [] rfl L'
noncomputable def ue (w:World) (P:KF) (fr:Nat) (n:Nat) (m:Nat) (c:Nat→Nat):Sp:=ii w 600 2000 lP "x" [(1,λ fd=>fr+1),(1,λ fd=>mt (bm (az fd 0) 0))] (λ fd=>aT fd 4) (λ fd=>ad (az fd 4)) n (λ fd=>⟨[("count",fr+1)],"law.<locals>.",158,fr,[],[(fr+1,ak (.int ((m+1:Nat):Int) (bE (fT (az fd 3))))),(aT fd 4,ab (ad (az fd 4)) (ao (az fd 4)))],[],λ _=>[],(ca λ i q=>.int ((c i:Int).fdiv ((m+1:Nat):Int)) q.1),nF,[∃ t,ad (az fd 4)=ah n (λ i=>(c i:Int)) t,n≤20,∀ i,c i < 10 ^ 9]⟩)
theorem q9 {fr:Nat}{n:Nat}:bO w (KP w P) (ue w P fr n m c):=by
 refine cC (by decide) (by decide) (by kernel_rfl) (λ fd i q ys=>by simp) (λ fd z=>rfl) λ fd ho hp=>?_
 have h0:=ho _ (.head _)
 have h1:=ho _ bU
 have h2:=ho _ fG
 obtain ⟨t,h0⟩:=h0
 dsimp only at h0⊢
 rw [h0]
 exact ⟨_,ab (ah n (λ i=>(c i:Int)) t) (ao (az fd 4)),au,.inl bU,bT rfl rfl,sb h1 h2⟩
noncomputable def xO:PySem.Expr:=sP (qU 1 (cO (fe (bA dU) 3)))
theorem z8 {fr:Nat}(hm:m≤5) (hea:KP w P ea=some (ab xs nn)) (hE:dG w P xs es):jV w P AY xO "k" (m+1) it acc gf (oT xO gf [("ends",fr+2)] fr) [it,acc,gf] [(fr+2,ak (.ref ea))] (λ l=>l=[]) (ca λ i q=>.int (es.count i:Nat) q.1) nF:=by
 intro H R dr os i hi ys ex nw an fn js h g tt hx hy hj L k
 subst hx
 obtain ⟨N,hN⟩:=bd h
 obtain ⟨w,c,rfl⟩:=cB w
 refine dv [b9 i (m+1),aN,c0 (uC _ P ea nn xs es i) sO] am [U,.e,U,.c 0 [0],aj,aj,.k,aD,aj,.k,.c 2 [0],.e,aj,.c 1 [2],.s] L hN λ ps=>?_
 refine aC AY [1,2,3] 4 (nw++[]) (λ W=>⟨.compLoop xO 0 (.ref it) (.ref acc) (oT xO gf [("ends",fr+2)] fr),true,none,[(it,kX (i+1) (m+1)),(acc,ab (ys.push (.int ((↑(List.count i es):Int)) ((ps 1).6 0))) ((ps 2).6 0)),(gf,aJ w [("k",g7 js ((ps 0).4),.int ((↑i:Int)) ((ps 0).6 0))] (g0 js fn))],[ys.size≤(1000:Nat),KP W P ea=some (ab xs nn),dG W P xs es,i < m+(1:Nat)]⟩) rfl (by apply jq hj c;kernel_rfl) (by decide) rfl rfl rfl rfl rfl ?_ λ h' g' t' L'=>?_
 ·repeat' first|exact ae|refine aa ?_ ?_
  all_goals first
   |lia
   |exact ⟨by lia,by lia⟩
   |exact hea
   |exact hE
 simp only [aX] at L'
 exact k h' g' t' (_,0,0) _ _ _ _ [] rfl L'
noncomputable def Dn (w:World) (P:KF) (fr:Nat) (m:Nat) (ea:Nat) (nn:Nat) (xs:VA) (es:List Nat):Sp:=mU w 600 2000 xO "k" (m+1) [(1,λ fd=>fr+2)] (λ fd=>⟨[("ends",fr+2)],"law.<locals>.",158,fr,[],[(fr+2,ak (.ref ea))],[],λ _=>[],(ca λ i q=>.int (es.count i:Nat) q.1),nF,[m≤5,KP w P ea=some (ab xs nn),dG w P xs es]⟩)
theorem zk {fr:Nat}:bO w (KP w P) (Dn w P fr m ea nn xs es):=by
 refine f5 (by decide) (by decide) (by kernel_rfl) (λ fd i q ys=>by simp) (λ fd z=>rfl) λ fd ho hp=>?_
 have h0:=ho _ (.head _)
 have h1:=ho _ bU
 have h2:=ho _ fG
 exact ⟨_,bT rfl rfl,z8 h0 h1 h2⟩
end
section
variable {A:Around}
noncomputable def dM:PySem.Expr:=eh (fe (bA dU) 2)
theorem wG {fr ls x y:Nat}{ty:Tok}{js:List (Str×Tok×Value)}(hj:js=[]∨∃ tj vj tk vk,js=[en "pair" tj vj,en "k" tk vk]) (hls:KP w P ls=some (ab ps lv)) (hp:ps[i]?=some (.ref u)) (hu:KP w P u=some (aU #[.int (x:Nat) tx,.int (y:Nat) ty] 0)) (hy:ys.size≤200) (R:RP)
  (L:ag (KP w P) H hh [it,acc,gf] ([(it,cr ls i),(acc,ab ys an),(gf,aJ w js fn)]++nw) [])
  (hR:∀ (h:Heap) (g:BG) (t' an fn a1 a2 v1 v2:Nat) (t1 t2 tj tk:Tok),ag (KP w P) H h [it,acc,gf] ([(it,cr ls (i+1:Nat)),(acc,ab ((ys.push (.ref a1)).push (.ref a2)) an),(gf,aJ w [en "pair" tj (.ref u),en "k" tk (.int (y:Nat) ty)] fn)]++([(a1,ab #[.int (x:Nat) t1] v1),(a2,ab #[.int (y:Nat) t2] v2)]++nw)) []→
   codeAny (model pg w) AY (.compLoop dM 0 (.ref it) (.ref acc) (oT dM gf [] fr)) R ⟨h,g,dr,t',os⟩):
  codeAny (model pg w) AY (.compLoop dM 0 (.ref it) (.ref acc) (oT dM gf [] fr)) R ⟨hh,gg,dr,tt,os⟩:=by
 obtain ⟨M,hM⟩:=bd hh
 have hpf:=f9 hls (f9 hu am)
 obtain ⟨w,c2,rfl⟩:=gE "comprehension-iter-twice" w
 obtain ⟨w,c,rfl⟩:=cB w
 refine dv [dl ps i (.ref u),aN] hpf ([U,.e,U,.c 0 [0,2000],aj,aj,aj,bY,bY,.e,bY,.e,U,.e]++(cond c2 [.e,U,.e,U,.e] [U,U,.e,U,.e,U,.e,U,.e,U,.e]++[U,U,bY,U,U,cS,cS,cS,.e,cS,.c 1 [3],.e,ay,.e,ay,.e,ay,ay,bY,ay,ay,aK,aK,aK,.e,aK,.c 1 [4],.e,aj,.e,aj,.e,aj,aj,bY,aj,aj,U,.s])) L hM λ ps0=>?_
 refine cE AY [5,6,7,3,2] 8 nw (λ W=>⟨.compLoop dM 0 (.ref it) (.ref acc) (oT dM gf [] fr),true,none,[(it,i4 ls (i+1)),(acc,ab ((ys.push (.ref ((ps0 0).3+1))).push (.ref ((ps0 1).3))) ((ps0 2).6 0)),(gf,aJ w [("pair",g7 js (ps0 0).4,.ref u),("k",g7 js.tail ((ps0 0).4+1),.int ((↑y:Int)) ty)] (g0 js (g0 js fn))),((ps0 (nat_lit 0)).3+1,ab #[.int ((↑x:Int)) tx] 0),((ps0 (nat_lit 1)).3,ab #[.int ((↑y:Int)) ty] 0)],[(ys.push (Value.ref ((ps0 (0:Nat)).3+((0:Nat)+(1:Nat))))).size≤(1000:Nat),ys.size≤(1000:Nat),ps[i]?=some (Value.ref u)]⟩) rfl (by apply IA hj c2 c;kernel_rfl) (by decide) (dc rfl) rfl rfl rfl rfl ?_ λ h' g' t' L'=>?_
 ·exact aa (by rw [Array.size_push];lia) (aa (by lia:ys.size≤1000) (aa hp ae))
 exact hR h' g' t' _ _ _ _ _ _ _ _ _ _ L'
end
section
variable {A:Around}
theorem rO {fr ls:Nat}(R:RP)
  (L:ag (KP w P) H hh [it,acc,gf] ([(it,cr ls ((0:Nat):Int)),(acc,ab #[] an),(gf,aJ w [] fn)]++nw) [])
  (hR:∀ (h:Heap) (g:BG) (t':Nat),ag (KP w P) H h [it,acc,gf] ([(it,cr ls ((0:Nat):Int)),(acc,ab #[] an),(gf,aJ w [] fn)]++nw) []→codeAny (model pg w) AY (.compLoop dM 0 (.ref it) (.ref acc) (oT dM gf [] fr)) R ⟨h,g,dr,t',os⟩):
  codeAny (model pg w) AY (.compStart dM 0 (.ref it) (.ref acc) (oT dM gf [] fr)) R ⟨hh,gg,dr,tt,os⟩:=by
 obtain ⟨M,hM⟩:=bd hh
 obtain ⟨w,c,rfl⟩:=cB w
 refine xT [] am [U,.s] 3 rfl (bp (by kernel_rfl)) (bp (by kernel_rfl)) L hM λ ps0=>?_
 refine cE AY [0,1,2] 3 nw (λ W=>⟨.compLoop dM 0 (.ref it) (.ref acc) (oT dM gf [] fr),true,none,[(it,cr ls 0),(acc,ab #[] an),(gf,aJ w [] fn)],[]⟩) rfl (by apply bq c;kernel_rfl) (by decide) (dc rfl) rfl rfl rfl rfl ae λ h' g' t' L'=>?_
 exact hR h' g' t' L'
theorem yg {fr ls:Nat}(hls:KP w P ls=some (ab ps lv)) (R:RP)
  (L:ag (KP w P) H hh [it,acc,gf] ([(it,cr ls ps.size),(acc,ab ys an),(gf,fo)]++nw) [])
  (hR:∀ (h:Heap) (g:BG) (t':Nat),ag (KP w P) H h [it,acc,gf] ([(it,jW ps.size),(acc,ab ys an),(gf,fo)]++nw) []→R (.ok .next) ⟨h,g,dr,t',os⟩):
  codeAny (model pg w) AY (.compLoop dM 0 (.ref it) (.ref acc) (oT dM gf [] fr)) R ⟨hh,gg,dr,tt,os⟩:=by
 obtain ⟨M,hM⟩:=bd hh
 have hpf:=f9 hls am
 refine dv [yb ps] hpf [U,.e,U,.c 0 [0,2000],U] L hM λ ps0=>?_
 refine ba [2,3,4] 5 nw (λ W=>⟨.ok .next,[(it,jW ps.size),(acc,ab ys an),(gf,fo)],[]⟩) rfl (by kernel_rfl) (by decide) (dc rfl) ae λ h' g' t' L'=>?_
 exact hR h' g' t' L'
end
section
variable {A:Around}
noncomputable def d9:List (Nat×Nat)→List Nat
 |[]=>[]
 |p::l=>p.1::p.2::d9 l
theorem pR:∀ l:List (Nat×Nat),(d9 l).length=2 * l.length
 |[]=>rfl
 |p::l=>by
  have:=pR l
  simp only [d9,List.length_cons,this];lia
theorem qR:∀ (l:List (Nat×Nat)) (i:Nat) (p:Nat×Nat),l[i]?=some p→(d9 l).getD (2 * i) 0=p.1∧(d9 l).getD (2 * i+1) 0=p.2
 |[],i,p,h=>by simp at h
 |q::l,0,p,h=>by
  have:q=p:=by simpa using h
  subst this
  exact ⟨rfl,rfl⟩
 |q::l,i+1,p,h=>by
  have z:=qR l i p (by simpa using h)
  rw [show 2 * (i+1)=2 * i+2 by lia]
  exact z
theorem ja (k:Nat):∀ l:List (Nat×Nat),(d9 l).count k=gk k l
 |[]=>rfl
 |p::l=>by
  unfold d9 gk
  rw [List.count_cons,List.count_cons,ja k l]
  simp only [beq_iff_eq]
  lia
noncomputable def gQ (es:List Nat) (j:Nat) (q:NN):aq:=[(q 0,ab #[.int (es.getD j 0:Nat) (q 1)] (q 2))]
noncomputable def EJ (n:Nat) (js:List (Str×Tok×Value)):Prop:=match n with
 |0=>js=[]
 |_+1=>∃ tj u tk y ty,js=[en "pair" tj (.ref u),en "k" tk (.int (y:Nat) ty)]
noncomputable def q3 (a b c:Nat):NN:=λ j=>match j with|0=>a|1=>b|_=>c
theorem wg {fr ls:Nat}(hls:KP w P ls=some (ab ps lv)) (hp:cq w P ps prs) (h50:prs.length≤50) (R:RP)
  (hR:∀ (h:Heap) (g:BG) (t' an fn:Nat) (js:List (Str×Tok×Value)) (qs:List NN),qs.length=2 * prs.length→EJ prs.length js→ag (KP w P) H h [it,acc,gf] ([(it,jW ps.size),(acc,ab (dD qs) an),(gf,aJ w js fn)]++bF (gQ (d9 prs)) qs) []→R (.ok .next) ⟨h,g,dr,t',os⟩):
  ∀ (u i:Nat),i+u=prs.length→∀ (hh:Heap) (gg:BG) (tt an fn:Nat) (js:List (Str×Tok×Value)) (qs:List NN),qs.length=2 * i→EJ i js→ag (KP w P) H hh [it,acc,gf] ([(it,cr ls i),(acc,ab (dD qs) an),(gf,aJ w js fn)]++bF (gQ (d9 prs)) qs) []→
  codeAny (model pg w) AY (.compLoop dM 0 (.ref it) (.ref acc) (oT dM gf [] fr)) R ⟨hh,gg,dr,tt,os⟩:=by
 intro u
 induction u with
 |zero=>
  intro i hi hh gg tt an fn js qs hq hj L
  have e:i=prs.length:=by lia
  have e2:i=ps.size:=by rw [e,hp.1]
  rw [e2] at L
  refine yg hls R L λ h g t' L'=>?_
  exact hR h g t' an fn js qs (by rw [hq,e]) (by rw [←e];exact hj) L'
 |succ u ih=>
  intro i hi hh gg tt an fn js qs hq hj L
  have hin:i < prs.length:=by lia
  obtain ⟨v,t1,t2,e1,e2⟩:=hp.2 i prs[i] (dT hin)
  obtain ⟨g1,g2⟩:=qR prs i prs[i] (dT hin)
  have hy:(dD qs).size≤200:=by rw [j1];lia
  have step:∀ (h:Heap) (g:BG) (t' an fn a1 a2 v1 v2:Nat) (u1 u2 tj tk:Tok),ag (KP w P) H h [it,acc,gf] ([(it,cr ls (i+1:Nat)),(acc,ab (((dD qs).push (.ref a1)).push (.ref a2)) an),(gf,aJ w [en "pair" tj (.ref v),en "k" tk (.int (prs[i].2:Nat) t2)] fn)]++([(a1,ab #[.int (prs[i].1:Nat) u1] v1),(a2,ab #[.int (prs[i].2:Nat) u2] v2)]++bF (gQ (d9 prs)) qs)) []→
    codeAny (model pg w) AY (.compLoop dM 0 (.ref it) (.ref acc) (oT dM gf [] fr)) R ⟨h,g,dr,t',os⟩:=λ h g t' an fn a1 a2 v1 v2 u1 u2 tj tk L'=>by
   refine ih (i+1) (by lia) h g t' an fn _ (qs++[q3 a1 u1 v1]++[q3 a2 u2 v2]) (by simp [hq];lia) ⟨tj,v,tk,prs[i].2,t2,rfl⟩ ?_
   rw [ka,ka,oB,oB]
   have l1:(qs++[q3 a1 u1 v1]).length=2 * i+1:=by simp [hq]
   rw [l1,hq]
   unfold gQ
   rw [g1,g2]
   exact L'.perm ((List.Perm.refl _).append ((List.Perm.swap _ _ _)))
  refine wG ?_ hls e1 e2 hy R L step
  cases i with
  |zero=>exact .inl hj
  |succ i=>
   obtain ⟨tj,v',tk,y,ty,rfl⟩:=hj
   exact .inr ⟨_,_,_,_,rfl⟩
noncomputable def sj (w:World) (P:KF) (fr ls lv np:Nat) (ps:VA) (prs:List (Nat×Nat)):Sp:=⟨600,2000,false,
 λ c fd=>ew (xC c) [(0,λ _=>nQ c),(0,λ _=>j5 c),(0,λ _=>(iK c).locals)] fd,
 λ c fd=>⟨.compStart dM 0 (.ref (aT fd 0)) (.ref (aT fd 1)) (oT dM (aT fd 2) [] fr),
  [(aT fd 0,cr ls ((0:Nat):Int)),(aT fd 1,ab #[] (ao (az fd 1))),(aT fd 2,aJ w [] (mM (az fd 2)))],[],[],
  λ _=>.ok .next,
  λ z=>[jW np,ab (dD (cm z (2 * np))) (z 0),aJ w (match np with|0=>[]|_+1=>[en "pair" (z 1) (.ref (z 4)),en "k" (z 2) (.int (z 5:Nat) (z 6))]) (z 3)],
  λ _=>[],λ z=>bF (gQ (d9 prs)) (cm z (2 * np)),[KP w P ls=some (ab ps lv)∧cq w P ps prs∧prs.length=np∧np≤50]⟩⟩
theorem nO {fr ls np:Nat}:bO w (KP w P) (sj w P fr ls lv np ps prs):=by
 rintro c fd r rfl hc ho
 refine ⟨λ z=>rfl,λ h g d t os R L hp kx=>?_⟩
 obtain ⟨h0,h1,h2,h3⟩:KP w P ls=some (ab ps lv)∧cq w P ps prs∧prs.length=np∧np≤50:=ho _ (.head _)
 subst h2
 refine rO (nw:=[]) R L λ h g t L=>?_
 refine wg h0 h1 h3 R (λ h g t an fn js qs hq hj L=>?_) prs.length 0 (Nat.zero_add _) h g t _ _ [] [] rfl rfl L
 have fin:∀ (f:NN),f 0=an→f 3=fn→js=(match prs.length with|0=>[]|_+1=>[en "pair" (f 1) (.ref (f 4)),en "k" (f 2) (.int (f 5:Nat) (f 6))])→R (.ok .next) ⟨h,g,d,t,os⟩:=λ f e0 e3 ej=>by
  obtain ⟨z,hz,hz'⟩:=qo qs f
  refine kx z h g t (λ e=>by cases e) ?_
  show ag _ _ _ _ ([(_,dS (.type "list_iterator") #[.none,.int prs.length 0]),(_,ab (dD (cm z (2 * prs.length))) (z 0)),(_,aJ w (match prs.length with|0=>[]|_+1=>[en "pair" (z 1) (.ref (z 4)),en "k" (z 2) (.int (z 5:Nat) (z 6))]) (z 3))]++([]++bF (gQ (d9 prs)) (cm z (2 * prs.length)))) _
  rw [←hq,hz,hz' 0 (by lia),hz' 1 (by lia),hz' 2 (by lia),hz' 3 (by lia),hz' 4 (by lia),hz' 5 (by lia),hz' 6 (by lia),←ej,e0,e3,←h1.1]
  exact L
 cases hn:prs.length with
 |zero=>
  rw [hn] at hj
  have hj:js=[]:=hj
  exact fin (λ k=>match k with|0=>an|_=>fn) rfl rfl (by rw [hn];exact hj)
 |succ n=>
  rw [hn] at hj
  obtain ⟨tj,u,tk,y,ty,e⟩:=hj
  exact fin (λ k=>match k with|0=>an|1=>tj|2=>tk|3=>fn|4=>u|5=>y|_=>ty) rfl rfl (by rw [hn];exact e)
end
section
noncomputable def zT (c:Nat→Nat) (m:Nat) (z:Nat→Nat):VA:=cn (ca λ i q=>.int ((c i:Int).fmod ((m+1:Nat):Int)) q.1) (aw z (m+1))
noncomputable def Id (c:Nat→Nat) (m n:Nat) (z:Nat→Nat):VA:=cn (ca λ i q=>.int ((c i:Int).fdiv ((m+1:Nat):Int)) q.1) (aw z n)
noncomputable def HY (t:Nat):VA:=#[.int 1338 t,.int 6422 (t+1),.int 7 (t+2),.int 1952 (t+3),.int 3201 (t+4),.int 27 (t+5)]
noncomputable def CK (sv:Nat→Int) (n:Nat) (z:Nat→Nat) (t:Nat):VA:=cn (ca λ i q=>.int ((sv i).fmod 1000000000) q.1) (aw z n)++HY t
noncomputable def G7 (c:Nat→Nat) (m:Nat) (z:Nat→Nat) (u:Tok):VA:=#[.int (((c 0:Int).fmod ((m+1:Nat):Int)+1).fmod ((m+1:Nat):Int)) u]++((zT c m z).toList.drop (1:Int).toNat).toArray
end
noncomputable def c6 (j:Nat):Nat:=[1338,6422,7,1952,3201,27].getD j 0
noncomputable def cF (sv:Nat→Int) (n i:Nat):Nat:=if i < n then ((sv i).fmod 1000000000).toNat else c6 (i - n)
noncomputable def Fj (c:Nat→Nat) (m i:Nat):Nat:=c i % (m+1)
noncomputable def GZ (c:Nat→Nat) (m i:Nat):Nat:=if i=0 then (c 0 % (m+1)+1) % (m+1) else c i % (m+1)
noncomputable def G6 (c:Nat→Nat) (m i:Nat):Nat:=c i / (m+1)
theorem Fn (j:Nat):c6 j < 10 ^ 9:=by
 unfold c6
 match j with
 |0=>decide
 |1=>decide
 |2=>decide
 |3=>decide
 |4=>decide
 |5=>decide
 |j+6=>simp
theorem CW (x:Int):0≤x.fmod 1000000000∧x.fmod 1000000000 < 1000000000:=by
 rw [Int.fmod_eq_emod_of_nonneg _ (by lia)];lia
theorem uu (sv:Nat→Int) (n i:Nat):cF sv n i < 10 ^ 9:=by
 unfold cF
 split
 ·have:=CW (sv i);lia
 ·exact Fn _
theorem ur (a m:Nat):(a:Int).fmod ((m+1:Nat):Int)=((a % (m+1):Nat):Int):=by
 rw [Int.fmod_eq_emod_of_nonneg _ (by lia)];exact (Int.natCast_emod a (m+1)).symm
theorem FH (a m:Nat):(a:Int).fdiv ((m+1:Nat):Int)=((a / (m+1):Nat):Int):=by
 rw [Int.fdiv_eq_ediv_of_nonneg _ (by lia)];exact (Int.natCast_ediv a (m+1)).symm
theorem zr {n:Nat}{v:Nat→Int}(hs:xs.size=n) (h:∀ i,i < n→∃ t,xs[i]?=some (.int (v i) t)):∃ t,xs=ah n v t:=by
 have h':∃ f:Nat→Tok,∀ i,i < n→xs[i]?=some (.int (v i) (f i)):=by
  refine Classical.axiomOfChoice (r:=λ i t=>i < n→xs[i]?=some (.int (v i) t)) λ i=>?_
  by_cases hi:i < n
  ·obtain ⟨t,e⟩:=h i hi;exact ⟨t,λ _=>e⟩
  ·exact ⟨0,λ c=>absurd c hi⟩
 obtain ⟨f,hf⟩:=h'
 refine ⟨f,?_⟩
 apply Array.ext
 ·rw [hs,au]
 ·intro i h1 h2
  have hi:i < n:=by rw [←hs];exact h1
  have e1:=hf i hi
  have e2:=aG (v:=v) (t:=f) hi
  rw [i9 h1] at e1
  rw [i9 h2] at e2
  rw [bo e1,bo e2]
theorem tL (c:Nat→Nat) (m:Nat) (z:Nat→Nat):∃ t,zT c m z=ah (m+1) (λ i=>(Fj c m i:Int)) t:=by
 obtain ⟨t,e⟩:=dB (λ i=>(c i:Int).fmod ((m+1:Nat):Int)) z (m+1)
 refine ⟨t,e.trans ?_⟩
 congr 1;funext i;exact ur _ _
theorem Go (c:Nat→Nat) (m n:Nat) (z:Nat→Nat):∃ t,Id c m n z=ah n (λ i=>(G6 c m i:Int)) t:=by
 obtain ⟨t,e⟩:=dB (λ i=>(c i:Int).fdiv ((m+1:Nat):Int)) z n
 refine ⟨t,e.trans ?_⟩
 congr 1;funext i;exact FH _ _
theorem GF (c:Nat→Nat) (m:Nat) (z:Nat→Nat) (u:Tok):∃ t,G7 c m z u=ah (m+1) (λ i=>(GZ c m i:Int)) t:=by
 obtain ⟨t,e⟩:=tL c m z
 refine zr ?_ λ i hi=>?_
 ·unfold G7;rw [e];simp [au]
 ·unfold G7
  rw [e]
  induction i with
  |zero=>
   refine ⟨u,?_⟩
   rw [Array.getElem?_append_left (by simp)]
   show some (Value.int _ u)=_
   congr 2
   unfold GZ
   rw [if_pos rfl,ur,show ((c 0 % (m+1):Nat):Int)+1=((c 0 % (m+1)+1:Nat):Int) by lia,ur]
  |succ i=>
   refine ⟨t (i+1),?_⟩
   rw [Array.getElem?_append_right (by simp)]
   have e2:=aG (v:=λ i=>(Fj c m i:Int)) (t:=t) hi
   simp only [List.getElem?_toArray,List.getElem?_drop]
   show (ah (m+1) (λ i=>(Fj c m i:Int)) t).toList[1+i]?=_
   rw [Nat.add_comm 1 i,Array.getElem?_toList,e2]
   rfl
theorem s7 (sv:Nat→Int) (n:Nat) (z:Nat→Nat) (t0:Nat):(CK sv n z t0).size=n+6:=by
 unfold CK HY
 rw [Array.size_append,tF,n7];rfl
theorem Dj (sv:Nat→Int) (n:Nat) (z:Nat→Nat) (t0:Nat):∃ t,CK sv n z t0=ah (n+6) (λ i=>(cF sv n i:Int)) t:=by
 obtain ⟨t,e⟩:=dB (λ i=>(sv i).fmod 1000000000) z n
 refine zr (s7 _ _ _ _) λ i hi=>?_
 unfold CK
 rw [e]
 by_cases h:i < n
 ·refine ⟨t i,?_⟩
  rw [Array.getElem?_append_left (by rw [au];exact h),aG h]
  unfold cF
  rw [if_pos h]
  have:=CW (sv i)
  congr 2;lia
 ·rw [Array.getElem?_append_right (by rw [au];lia),au]
  unfold cF
  rw [if_neg h]
  have h6:i - n < 6:=by lia
  generalize i - n=j at h6
  match j,h6 with
  |0,_=>exact ⟨_,rfl⟩
  |1,_=>exact ⟨_,rfl⟩
  |2,_=>exact ⟨_,rfl⟩
  |3,_=>exact ⟨_,rfl⟩
  |4,_=>exact ⟨_,rfl⟩
  |5,_=>exact ⟨_,rfl⟩
theorem uo {n:Nat}{v:Nat→Int}(h:k≤n):((ah n v t).toList.take k).toArray=ah k v t:=by
 apply Array.ext'
 show (ah n v t).toList.take k=_
 apply du
 ·simp [au];lia
 ·intro i h1 h2
  rw [List.getElem_take,fu,fu]
theorem Bb (sv:Nat→Int) (n:Nat) (z:Nat→Nat) (t0 k:Nat) (h:k≤n+6):∃ t,((CK sv n z t0).toList.take k).toArray=ah k (λ i=>(cF sv n i:Int)) t:=by
 obtain ⟨t,e⟩:=Dj sv n z t0
 exact ⟨t,by rw [e,uo h]⟩
theorem Fz {n n6:Nat}{sv:Nat→Int}{st0:Nat→Tok}(h:n6=min n 6):∃ t,((ah n sv st0).toList.take 6).toArray=ah n6 sv t:=by
 refine ⟨st0,?_⟩
 by_cases h1:6≤n
 ·rw [uo h1,h,Nat.min_eq_right h1]
 ·rw [h,Nat.min_eq_left (by lia),List.take_of_length_le (by rw [iI];lia),Array.toArray_toList]
section
variable {A:Around}
theorem xp {l:List Env}(h0:PA w P m dd lk dn ln dA lA d lo td tl) (hcf:cf=cl++fl) (hfr:dP l fl) (h92:al 61 19 o92) (h99:al 64 32 o99) (htx:fh o151 cl) (R:RP)
  (L:ag (KP w P) H hh (fE pp fl) ([(92,o92),(99,o99),(151,o151),(pp,ab #[] pn)]++cf) [])
  (hR:∀ (P':KF) (h:Heap) (g:BG) (t':Nat) (b:Bool) (prs:List (Nat×Nat)) (ps':VA) (pn':Nat) (o92' o99' o151':Obj) (cl' fl':aq),cx w P P'→b=hY ((List.range (m+1)).map d)→(b=true→∀ k,k < m+1→gk k prs=d k)→(∀ p∈prs,p.1 < m+1∧p.2 < m+1)→prs.length≤50→cq w P' ps' prs→al 61 19 o92'→al 64 32 o99'→fh o151' cl'→dP l fl'→la fl' fl→
   ag (KP w P') H h (fE pp fl') ([(92,o92'),(99,o99'),(151,o151'),(pp,ab ps' pn')]++(cl'++fl')) []→R (.ok (.ret (.bool b))) ⟨h,g,dr,t',os⟩):
  codeAny (model pg w) (AP l) (.call (.ref 154) ⟨[.ref dd,.ref lk,.ref pp],[]⟩) R ⟨hh,gg,dr,tt,os⟩:=by
 obtain ⟨N,hN⟩:=bd hh
 have hm:∀ p∈fl,p∈cf:=λ p hp=>by rw [hcf];exact bu _ hp
 have hm5:m≤5:=by have:=h0.m45;lia
 have hpf:=f9 h0.lk (f9 h0.dd am)
 obtain ⟨w,c,rfl⟩:=cB w
 refine dv [y7 (m+1),eI (m+1),c0 (zA _ P N m dd lk dn ln dA lA d lo td tl) vE,c0 (u6 _ P N m dd lk dn ln dA lA d lo td tl) rX,c0 (ph _ P N m) pE] hpf [.k,ix,ix,qz,qz,ig,ig,.e,.k,.k,ix,.c 0 [2001],aj,aj,.k,.k,aj,.e,.e,.e,.e,U,U,.e,U,.e,U,U,U,.e,U,.c 1 [0],U,.c 2 [2,1,0,16,17],U,U,U,dX,dX,.k,.k,dR,.e,.e,.e,.e,U,U,.e,U,.e,U,U,U,.e,U,.c 1 [0],U,.c 3 [2,1,0,20],U,U,U,qa,qa,.k,.k,z9,.e,.e,.e,.e,U,U,.e,U,.e,U,U,U,.e,U,.c 1 [0],U,.c 4 [2,1,0],U,U,U,m8,m8,.k,.k,ig,.e,.e,.e,.e,U,U,.e,U,.e,U,U,U,.e,U,.c 1 [0],U,.s] L hN λ ps=>?_
 refine gU AJ [28,0,21,20,19,18,17,15,14,22,29,30,31,32,27,26,25,24,23,16,11,7,3] 33 (((cf++bF (jl d lo) (cm (ps 2).as (m+1)))++ec nF (aw (ps 4).as (m+1)))++bF fL (cm (ps 6).as (m+1))) (λ W=>⟨Fe N ((ps 7).as 0),true,none,[(N,br w [("pairs",tt,.ref pp)] (1)),((ps (nat_lit 7)).6 (nat_lit 0),c8 ((0:Nat):Int) (((m+1:Nat):Int) - ((0:Nat):Int)) 1),(N+7,cZ),(N+8,cZ),(N+9,cZ),(N+10,cZ),(N+11,cZ),(N+13,cZ),(N+14,cZ),(N+6,cZ),(92,o92),(99,o99),(151,o151),(pp,ab #[] pn),(N+1,ak (.ref dd)),(N+2,ak (.ref lk)),(N+3,ak (.ref ((ps 1).3))),(N+4,ak (.ref ((ps 3).3))),(N+5,ak (.ref ((ps 5).3))),(N+12,ak (.int ((↑(m+1):Int)) ((ps 0).6 0))),((ps (nat_lit 1)).3,ab (dD (cm (ps 2).as (m+1))) ((ps 2).6 0)),((ps (nat_lit 3)).3,ab (cn (ca λ i q=>Value.int ((↑(lo i):Int).fmod (2:Int)) q.fst) (aw (ps 4).as (m+1))) ((ps 4).6 0)),((ps (nat_lit 5)).3,ab (dD (cm (ps 6).as (m+1))) ((ps 6).6 0))],[m+(1:Nat) < (1000:Nat),m≤(5:Nat),m+(1:Nat) < (1000:Nat),PA W P m dd lk dn ln dA lA d lo td tl,m+(1:Nat) < (1000:Nat),PA W P m dd lk dn ln dA lA d lo td tl,m+(1:Nat) < (1000:Nat),dA.size≤(1000:Nat),dA.size=m+(1:Nat)]⟩) rfl (by apply bq c;kernel_rfl) (by decide) (fJ 10 rfl λ p hp=>aI _ (aI _ (aI _ (hm p hp)))) rfl rfl rfl rfl ?_ λ h g t2 L' _ md=>?_
 ·exact aa ((by lia:m+1 < 1000)) (aa (hm5) (aa ((by lia:m+1 < 1000)) (aa (h0) (aa ((by lia:m+1 < 1000)) (aa (h0) (aa ((by lia:m+1 < 1000)) (aa ((by rw [h0.ds];lia:dA.size≤1000)) (aa (h0.ds) (ae)))))))))
 simp only [bR,aX,bC] at L'
 obtain ⟨nt,en⟩:=dB (λ k=>(lo k:Int).fmod 2) (ps 4).as (m+1)
 generalize cn (ca λ i q=>Value.int ((lo i:Int).fmod 2) q.1) (aw (ps 4).as (m+1))=nA at L' en
 generalize (ps 2).as=z1 at L'
 generalize (ps 6).as=z3 at L'
 generalize (ps 1).n=rl at L'
 generalize (ps 3).n=nl at L'
 generalize (ps 5).n=pl at L'
 generalize (ps 0).as 0=k3 at L'
 generalize z1 0=rlv at L'
 generalize (ps 4).as 0=nlv at L'
 generalize z3 0=plv at L'
 generalize (ps 7).as 0=it at L'
 have L2:=vV (A:=Fq _ N it pp m o92 o99 o151 #[] pn) (B:=Gw N m dd lk rl nl pl rlv nlv plv k3 z1 z3 nA) L'
 have hH:=HX L2 (fJ 10 rfl hm)
 obtain ⟨L3,hS,nS⟩:=L2.stay (fJ 10 rfl hm)
 have I:=GO h0 nS hS hH
 have S:=HH h0 nS hS hH
 clear L' L2
 refine BT I _ (m+1) 0 (Nat.zero_add _) _ 1 [] h g t2 S (.inl rfl) (λ c=>absurd c (Nat.lt_irrefl _)) (fJ (own:=(Fq cZ N it pp m o92 o99 o151 #[] pn).drop 2) 8 rfl hm) L3 λ P2 fn' js' h g t3 kp q2 q3 q4 L4=>?_
 obtain ⟨k1,kvl,rfl⟩:=q3 (Nat.succ_pos _)
 clear L3 S
 have kp0:=(eU hS).trans kp
 have h12:=kp _ _ bj (cy nS hS (show (N+12,ak (.int ((m+1:Nat):Int) k3))∈_ from qS 5 rfl))
 have h1:=kp _ _ bj (cy nS hS (show (N+1,ak (.ref dd))∈_ from qS 0 rfl))
 have hpf2:=IJ (kp0 _ _ bc h0.dd) h1 h12
 obtain ⟨M,hM⟩:=bd h
 refine ma R [F3,eI (m+2)] hpf2 hM [.k,.k,bY,.e,.e,.e,.e,U,U,.c 0 [0,2000],z9,z9,.k,.k,o8,.e,.e,.e,.e,.e,.e,U,U,.e,U,.e,U,U,U,.e,U,.c 1 [0],U,.s] L4 md λ ps1=>?_
 refine eC (AQ (aQ N::l)) [3,0,5,6,7,8,9,10,11,2,13,14,15,16,12] 17 cf (λ W=>⟨ch N ((ps1 2).as 0),true,none,some (aQ N::l),[(N,br w [("pairs",tt,.ref pp),("k",k1,kvl)] fn'),((ps1 (nat_lit 2)).6 (nat_lit 0),c8 ((0:Nat):Int) (((m+1+1:Nat):Int) - ((0:Nat):Int)) 1),(N+7,cZ),(N+8,cZ),(N+9,cZ),(N+10,cZ),(N+11,cZ),(N+13,cZ),(N+14,cZ),(M,ab dA ((ps1 1).6 0)),(92,o92),(99,o99),(151,o151),(pp,ab #[] pn),(N+6,ak (.ref M))],[m+(2:Nat) < (1000:Nat),dA.size.ble (1000:Nat)=true,dA.size.beq (0:Nat)=false]⟩) rfl (by apply bq c;kernel_rfl) (by decide) (fJ 10 rfl hm) rfl rfl rfl rfl ?_ λ h g t2 L5 _ md2=>?_
 ·exact aa (by lia:m+2 < 1000) (aa (mV (by rw [h0.ds];lia)) (aa (by rw [h0.ds];rfl) ae))
 refine DN h0 nS hS hH en kp q4 hcf hfr h92 h99 htx L5 _ λ P3 h g t3 b prs ps' pn' o92' o99' o151' cl' fl' r1 r2 r3 r4 r5 r6 r7 r8 r9 r10 r11 L7=>?_
 obtain ⟨M2,hM2⟩:=bd h
 have eF:fE pp fl'=fE pp fl:=by unfold fE;rw [r11.fs]
 rw [eF] at L7
 refine ma R [] am hM2 [] L7 md2 λ ps2=>?_
 refine ba [0,1,2,3] 4 (cl'++fl') (λ W=>⟨.ok (.ret (.bool b)),[(92,o92'),(99,o99'),(151,o151'),(pp,ab ps' pn')],[]⟩) rfl (by apply bq c;kernel_rfl) (by decide) (by rw [←eF];exact aR 4 rfl λ p hp=>bu _ hp) ae λ h' g' t4 L8=>?_
 exact hR P3 h' g' t4 b prs ps' pn' o92' o99' o151' cl' fl' r1 r2 r3 r4 r5 r6 r7 r8 r9 r10 r11 (by rw [eF];exact L8)
end
end
section
variable {w:World}{P K:KF}{H h hh:Heap}{gg:BG}{dr:Drawn}{tt N m dd lk dn ln fn pp it pn sc ce fi pq r ea nn kc tp tv d1 d2 sn:Nat}{os:OsState}{dA lA ps xs:VA}{d lo z c:Nat→Nat}{td tl st0:Nat→Tok}{es:List (Str×Tok×Value)}{sl:iT}{cl B old:aq}{o92 o99 o151 ito:Obj}{ev:Option Value}{e0 e1 e2 e3 e4 e5:Tok}{a1 a2 a3 a4 a5 a6:Addr×Obj}{prs:List (Nat×Nat)}{k:Int}{b:Bool}{sv:Nat→Int}{vs:List Value}{ns:List Int}
section
variable {P':KF}
noncomputable abbrev Ib:Around:=⟨none,560,some [],none,1800⟩
noncomputable abbrev kW (l:List Env):Around:=⟨none,568,some l,none,1830⟩
noncomputable def be (N:Addr):Env:={ scope:=fS (st 14),locals:=N,globals:=3,cells:=[("ends",N+2),("count",N+1)],qual:="law.<locals>.",func:=some 159,code:=.ref 158,frame:=some N,builtins:=0 }
noncomputable abbrev kR (N it:Addr):Code:=.forLoop (m6 dU) (.ref it) (bA dU) (ng dU) (be N)
theorem la.one {N:Addr}{o:Obj}{fl:aq}(h:la fl [(N,o)]):∃ sl,fl=[(N,{ o with slots:=sl })]:=by
 unfold la pB at h
 cases fl with
 |nil=>cases h
 |cons p l=>
  induction l with
  |cons q l=>simp at h
  |nil=>
   simp only [List.map_cons,List.map_nil,List.cons.injEq,and_true] at h
   obtain ⟨a,o'⟩:=p
   obtain ⟨rfl,h2⟩:=aH h
   refine ⟨o'.slots,?_⟩
   obtain ⟨c1,d1,t1,s1⟩:=o'
   obtain ⟨c2,d2,t2,s2⟩:=o
   simp only [Obj.mk.injEq] at h2
   obtain ⟨rfl,rfl,rfl,_⟩:=h2
   rfl
theorem PA.kept (h:PA w P m dd lk dn ln dA lA d lo td tl) (k:cx w P P'):PA w P' m dd lk dn ln dA lA d lo td tl:=
 ⟨h.m45,k _ _ bc h.dd,k _ _ bc h.lk,h.ds,h.dg,h.lg,h.d6,h.l9⟩
theorem H9 {N:Addr}:dP [be N] [(N,aV w es fn sl)]:=⟨(by decide:(fS (st 14)).kind≠.module),rfl,(λ vs e=>by cases e),trivial⟩
theorem nz (h0:PA w P m dd lk dn ln dA lA d lo td tl) (h92:al 61 19 o92) (h99:al 64 32 o99) (htx:fh o151 cl) (hit:oY ito) (hit2:ito.cls≠.type "tuple") (R:RP)
  (L:ag (KP w P) H h [92,99,151] ([(92,o92),(99,o99),(151,o151),(pp,ab #[] pn),(N,aV w es fn sl),(it,ito),(N+2,aF ev)]++cl) [])
  (hR:∀ (P':KF) (h:Heap) (g:BG) (t':Nat) (b:Bool) (prs:List (Nat×Nat)) (ps':VA) (pn':Nat) (o92' o99' o151':Obj) (cl':aq) (sl':iT),cx w P P'→b=hY ((List.range (m+1)).map d)→(b=true→∀ k,k < m+1→gk k prs=d k)→prs.length≤50→cq w P' ps' prs→KP w P' pp=some (ab ps' pn')→al 61 19 o92'→al 64 32 o99'→fh o151' cl'→
   ag (KP w P') H h [92,99,151] ([(N,aV w es fn sl'),(it,ito),(N+2,aF ev),(92,o92'),(99,o99'),(151,o151')]++cl') []→R (.ok (.ret (.bool b))) ⟨h,g,dr,t',os⟩):
  codeAny (model pg w) (AP [be N]) (.call (.ref 154) ⟨[.ref dd,.ref lk,.ref pp],[]⟩) R ⟨h,gg,dr,tt,os⟩:=by
 have F0:∀ a∈([92,99,151]:List Addr),H.get? a=none∨a∈([92,99,151]:List Addr):=λ a ha=>.inr ha
 have fresh:∀ p∈([(pp,ab #[] pn),(N,aV w es fn sl),(it,ito),(N+2,aF ev)]:aq),H.get? p.1=none:=λ p hp=>by
  have hm:p∈[(92,o92),(99,o99),(151,o151),(pp,ab #[] pn),(N,aV w es fn sl),(it,ito),(N+2,aF ev)]++cl:=aI _ (.tail _ (.tail _ (.tail _ hp)))
  rcases (L.hown p hm).2 with hf|hf
  ·have nd:=L.ndOwn
   have nd':((([(92,o92),(99,o99),(151,o151)]++([(pp,ab #[] pn),(N,aV w es fn sl),(it,ito),(N+2,aF ev)]++cl):aq)).map (·.1)).Nodup:=nd
   rw [aW] at nd'
   exact absurd rfl ((bX.mp nd').2.2 p.1 hf p.1 (bW (f:=(·.1)) (aI _ hp)))
  ·exact hf
 have offs:∀ p∈([(pp,ab #[] pn),(N,aV w es fn sl),(it,ito),(N+2,aF ev)]:aq),KP w P p.1=none:=λ p hp=>L.off p (aI _ (.tail _ (.tail _ (.tail _ hp))))
 have hne:it≠N+2:=λ e=>by
  have nd:=L.ndOwn
  have nd':((([(92,o92),(99,o99),(151,o151),(pp,ab #[] pn),(N,aV w es fn sl)]++([(it,ito),(N+2,aF ev)]++cl):aq)).map (·.1)).Nodup:=nd
  rw [aW] at nd'
  have:=(bX.mp nd').2.1
  simp [e] at this
 have L1:ag (KP w P) H h [92,99,151] (([(92,o92),(99,o99),(151,o151),(pp,ab #[] pn)]++(cl++[(N,aV w es fn sl)]))++[(it,ito),(N+2,aF ev)]) []:=by
  refine L.perm ?_
  rw [bC]
  refine List.Perm.append_left [(92,o92),(99,o99),(151,o151),(pp,ab #[] pn)] ?_
  rw [bC]
  exact (jm (l₁:=[(N,aV w es fn sl),(it,ito),(N+2,aF ev)]) (l₂:=cl))
 have f3:∀ tl:aq,∀ a∈([92,99,151]:List Addr),a∈([(92,o92),(99,o99),(151,o151),(pp,ab #[] pn)]++tl).map (·.1):=λ tl=>aR (fl:=[]) 3 rfl λ p hp=>nomatch hp
 obtain ⟨L2,hS,nS⟩:=L1.stay (f3 _)
 have hfl:∀ p∈([(N,aV w es fn sl)]:aq),p∈cl++[(N,aV w es fn sl)]:=λ p hp=>bu _ hp
 have L3:=L2.moreF (F':=fE pp [(N,aV w es fn sl)]) (λ a ha=>aI [pp,N] ha) (aR (fl:=[(N,aV w es fn sl)]) 4 rfl hfl)
 have k1:cx w P (bN P [(it,ito),(N+2,aF ev)]):=eU hS
 refine xp (h0.kept k1) rfl H9 h92 h99 htx R L3 λ P2 h g t' b prs ps' pn' o92' o99' o151' cl' fl' kp r2 r3 r4 r5 r6 r7 r8 r9 r10 r11 L4=>?_
 obtain ⟨sl',rfl⟩:=la.one r11
 have e1:KP w P2 it=some ito:=kp _ _ hit (cy nS hS (.head _))
 have e2:KP w P2 (N+2)=some (aF ev):=kp _ _ ⟨"cell",rfl,by decide⟩ (cy nS hS bU)
 have K1:K0 w it=none:=eJ (offs (it,ito) fG)
 have K2:K0 w (N+2)=none:=eJ (offs (N+2,aF ev) jX)
 have H1:H.get? it=none:=fresh (it,ito) fG
 have H2:H.get? (N+2)=none:=fresh (N+2,aF ev) jX
 have H3:H.get? pp=none:=fresh (pp,ab #[] pn) (.head _)
 have H4:H.get? N=none:=fresh (N,aV w es fn sl) bU
 have L5:=L4.lessF (F:=[92,99,151]) (λ a ha=>by
  rcases dm.mp (show a∈[92,99,151]++[pp,N] from ha) with ha|ha
  ·exact .inl ha
  ·rcases bI.mp ha with rfl|ha
   ·exact .inr H3
   ·rw [ci.mp ha];exact .inr H4) (aR (fl:=[]) 3 rfl λ p hp=>nomatch hp)
 have L6:=GS e1 e2 hne K1 K2 H1 H2 L5
 have L7:ag (KP w (dO P2 it (N+2))) H h [92,99,151] (([(N,aV w es fn sl'),(it,ito),(N+2,aF ev),(92,o92'),(99,o99'),(151,o151')]++cl')++[(pp,ab ps' pn')]) []:=by
  refine L6.perm ?_
  show List.Perm ([(it,ito),(N+2,aF ev),(92,o92'),(99,o99'),(151,o151'),(pp,ab ps' pn')]++(cl'++[(N,aV w es fn sl')])) _
  have p1:List.Perm ([(it,ito),(N+2,aF ev),(92,o92'),(99,o99'),(151,o151'),(pp,ab ps' pn')]++(cl'++[(N,aV w es fn sl')])) ([(it,ito),(N+2,aF ev),(92,o92'),(99,o99'),(151,o151')]++((cl'++[(N,aV w es fn sl')])++[(pp,ab ps' pn')])):=
   List.Perm.append_left [(it,ito),(N+2,aF ev),(92,o92'),(99,o99'),(151,o151')] (jm (l₁:=[(pp,ab ps' pn')]))
  refine p1.trans ?_
  rw [←bC]
  refine List.Perm.append_right _ ?_
  rw [←bC]
  exact jm (l₂:=[(N,aV w es fn sl')])
 obtain ⟨L8,hS3,nS3⟩:=L7.stay (fJ (fl:=[]) 3 rfl λ p hp=>nomatch hp)
 have kd:cx w P (dO P2 it (N+2)):=λ a o s e=>by
  have a1:a≠it:=λ c=>by rw [c,offs (it,ito) fG] at e;cases e
  have a2:a≠N+2:=λ c=>by rw [c,offs (N+2,aF ev) jX] at e;cases e
  exact gx (kp _ _ s (k1 _ _ s e)) a1 a2
 have k3:cx w (dO P2 it (N+2)) (bN (dO P2 it (N+2)) [(pp,ab ps' pn')]):=eU hS3
 have kpr:cq w (dO P2 it (N+2)) ps' prs:=⟨r6.1,λ i p hp=>by
  obtain ⟨u,t1,t2,q1,q2⟩:=r6.2 i p hp
  refine ⟨u,t1,t2,q1,gx q2 (λ c=>?_) λ c=>?_⟩
  ·rw [c,e1] at q2;exact hit2 (congrArg Obj.cls (bo q2))
  ·rw [c,e2] at q2;exact absurd (Value.type.inj (congrArg Obj.cls (bo q2))) (by decide)⟩
 exact hR _ h g t' b prs ps' pn' o92' o99' o151' cl' sl' (kd.trans k3) r2 r3 r5 (kpr.kept k3) (cy nS3 hS3 (.head _)) r7 r8 r9 L8
end
section
variable {A:Around}
noncomputable def E6:List Stmt:=(bA dU).take 2
noncomputable def Eg:List Stmt:=[fe (bA dU) 2]
theorem l3:bA dU=E6++(Eg++[fe (bA dU) 3]):=by kernel_rfl
theorem Ht (h0:PA w P m dd lk dn ln (ah (m+1) (λ k=>(d k:Int)) td) lA d lo td tl) (h92:al 61 19 o92) (h99:al 64 32 o99) (htx:fh o151 cl) (hit:oY ito) (hit2:ito.cls≠.type "tuple") (Q:Flow→Shared→Prop)
  (L:ag (KP w P) H hh [92,99,151] ([(N,aV w [en "script" e0 (.ref sc),en "cells" e1 (.ref ce),en "first" e2 (.ref fi),en "looks" e3 (.ref lk),en "degrees" e4 (.ref dd)] fn sl),(it,ito),(N+2,aF ev),(92,o92),(99,o99),(151,o151)]++cl) [])
  (hR:∀ (P':KF) (h:Heap) (g:BG) (t':Nat) (b:Bool) (prs:List (Nat×Nat)) (ps':VA) (pp pn' fn e5:Nat) (o92 o99 o151:Obj) (cl:aq) (sl:iT),cx w P P'→b=hY ((List.range (m+1)).map d)→(b=true→∀ k,k < m+1→gk k prs=d k)→prs.length≤50→cq w P' ps' prs→KP w P' pp=some (ab ps' pn')→al 61 19 o92→al 64 32 o99→fh o151 cl→
   ag (KP w P') H h [92,99,151] ([(N,aV w [en "script" e0 (.ref sc),en "cells" e1 (.ref ce),en "first" e2 (.ref fi),en "looks" e3 (.ref lk),en "degrees" e4 (.ref dd),en "pairs" e5 (.ref pp)] fn sl),(it,ito),(N+2,aF ev),(92,o92),(99,o99),(151,o151)]++cl) []→Q .next ⟨h,g,dr,t',os⟩):
  wpOwn (model pg w) (kW [be N]) (kR N it) (execs E6 (be N)) Q NE ⟨hh,gg,dr,tt,os⟩:=by
 obtain ⟨M,hM⟩:=bd hh
 have f3:∀ (a b c:Addr×Obj) (o92 o99 o151:Obj) (cl:aq),∀ x∈([92,99,151]:List Addr),x∈([a,b,c,(92,o92),(99,o99),(151,o151)]++cl).map (·.1):=λ a b c o92 o99 o151 cl=>fJ (fl:=[]) 3 rfl λ p hp=>nomatch hp
 obtain ⟨w,c,rfl⟩:=cB w
 refine wW [] am (bp (by kernel_rfl)) L hM [ay,ay,.k,ay,ay,ay,.k,.s] λ ps=>?_
 refine eC (AP [be N]) [4,5,6,0,1,2,3] 7 cl (λ W=>⟨.call (.ref 154) ⟨[.ref dd,.ref lk,.ref M],[]⟩,true,none,some [be N],[(92,o92),(99,o99),(151,o151),(M,ab #[] 0),(N,aV W [en "script" e0 (.ref sc),en "cells" e1 (.ref ce),en "first" e2 (.ref fi),en "looks" e3 (.ref lk),en "degrees" e4 (.ref dd),en "pairs" tt (.ref M)] (fn+1) sl),(it,ito),(N+2,aF ev)],[]⟩) rfl (by apply bq c;kernel_rfl) (by decide) (aR (fl:=[]) 3 rfl λ p hp=>nomatch hp) rfl rfl rfl rfl ae λ h g t2 L1 _ md=>?_
 refine nz h0 h92 h99 htx hit hit2 _ L1 λ P2 h g t3 b prs ps' pn' o92 o99 o151 cl sl kp r2 r3 r4 r5 r6 r7 r8 r9 L2=>?_
 obtain ⟨M2,hM2⟩:=bd h
 have h0':=h0.kept kp
 have hm5:m≤5:=by have:=h0.m45;lia
 cases b
 ·refine ma (cz id Q NE) [c0 (gI _ P2 m dd dn d td false) eD] am hM2 [.k,U,.k,.c 0 []] L2 md λ ps2=>?_
  refine bt rfl [0,1,2,3,4,5] 6 (cl++[]) (λ W=>⟨.ok .next,[(N,aV W [en "script" e0 (.ref sc),en "cells" e1 (.ref ce),en "first" e2 (.ref fi),en "looks" e3 (.ref lk),en "degrees" e4 (.ref dd),en "pairs" tt (.ref M)] (fn+1) sl),(it,ito),(N+2,aF ev),(92,o92),(99,o99),(151,o151)],[m≤(5:Nat)∧KP W P2 dd=some (ab (ah (m+(1:Nat)) (λ k=>(↑(d k):Int)) td) dn)∧hY (List.map d (List.range (m+(1:Nat))))=false]⟩) rfl .next (by apply bq c;kernel_rfl) rfl (by decide) (f3 _ _ _ _ _ _ _) (aa ⟨hm5,h0'.dd,r2.symm⟩ ae) λ h g t4 L3=>?_
  rw [aX] at L3
  exact hR P2 h g t4 false prs ps' _ pn' _ _ o92 o99 o151 cl sl kp r2 r3 r4 r5 r6 r7 r8 r9 L3
 ·refine ma (cz id Q NE) [c0 (gI _ P2 m dd dn d td true) eD] am hM2 [.k,U,.k,.c 0 []] L2 md λ ps2=>?_
  refine bt rfl [0,1,2,3,4,5] 6 (cl++[]) (λ W=>⟨.ok .next,[(N,aV W [en "script" e0 (.ref sc),en "cells" e1 (.ref ce),en "first" e2 (.ref fi),en "looks" e3 (.ref lk),en "degrees" e4 (.ref dd),en "pairs" tt (.ref M)] (fn+1) sl),(it,ito),(N+2,aF ev),(92,o92),(99,o99),(151,o151)],[m≤(5:Nat)∧KP W P2 dd=some (ab (ah (m+(1:Nat)) (λ k=>(↑(d k):Int)) td) dn)∧hY (List.map d (List.range (m+(1:Nat))))=true]⟩) rfl .next (by apply bq c;kernel_rfl) rfl (by decide) (f3 _ _ _ _ _ _ _) (aa ⟨hm5,h0'.dd,r2.symm⟩ ae) λ h g t4 L3=>?_
  rw [aX] at L3
  exact hR P2 h g t4 true prs ps' _ pn' _ _ o92 o99 o151 cl sl kp r2 r3 r4 r5 r6 r7 r8 r9 L3
theorem HD (h0:PA w P m dd lk dn ln (ah (m+1) (λ k=>(d k:Int)) td) lA d lo td tl) (h92:al 61 19 o92) (h99:al 64 32 o99) (htx:fh o151 cl) (hit:oY ito) (hit2:ito.cls≠.type "tuple") (Q:Flow→Shared→Prop)
  (L:ag (KP w P) H hh [92,99,151] ([(N,aV w [en "script" e0 (.ref sc),en "cells" e1 (.ref ce),en "first" e2 (.ref fi),en "looks" e3 (.ref lk),en "degrees" e4 (.ref dd),en "pairs" e5 (.ref pq)] fn sl),(it,ito),(N+2,aF ev),(92,o92),(99,o99),(151,o151)]++cl) [])
  (hR:∀ (P':KF) (h:Heap) (g:BG) (t':Nat) (b:Bool) (prs:List (Nat×Nat)) (ps':VA) (pp pn' fn e5:Nat) (o92 o99 o151:Obj) (cl:aq) (sl:iT),cx w P P'→b=hY ((List.range (m+1)).map d)→(b=true→∀ k,k < m+1→gk k prs=d k)→prs.length≤50→cq w P' ps' prs→KP w P' pp=some (ab ps' pn')→al 61 19 o92→al 64 32 o99→fh o151 cl→
   ag (KP w P') H h [92,99,151] ([(N,aV w [en "script" e0 (.ref sc),en "cells" e1 (.ref ce),en "first" e2 (.ref fi),en "looks" e3 (.ref lk),en "degrees" e4 (.ref dd),en "pairs" e5 (.ref pp)] fn sl),(it,ito),(N+2,aF ev),(92,o92),(99,o99),(151,o151)]++cl) []→Q .next ⟨h,g,dr,t',os⟩):
  wpOwn (model pg w) (kW [be N]) (kR N it) (execs E6 (be N)) Q NE ⟨hh,gg,dr,tt,os⟩:=by
 obtain ⟨M,hM⟩:=bd hh
 have f3:∀ (a b c:Addr×Obj) (o92 o99 o151:Obj) (cl:aq),∀ x∈([92,99,151]:List Addr),x∈([a,b,c,(92,o92),(99,o99),(151,o151)]++cl).map (·.1):=λ a b c o92 o99 o151 cl=>fJ (fl:=[]) 3 rfl λ p hp=>nomatch hp
 obtain ⟨w,c,rfl⟩:=cB w
 refine wW [] am (bp (by kernel_rfl)) L hM [ay,ay,.k,ay,ay,ay,.k,.s] λ ps=>?_
 refine eC (AP [be N]) [4,5,6,0,1,2,3] 7 cl (λ W=>⟨.call (.ref 154) ⟨[.ref dd,.ref lk,.ref M],[]⟩,true,none,some [be N],[(92,o92),(99,o99),(151,o151),(M,ab #[] 0),(N,aV W [en "script" e0 (.ref sc),en "cells" e1 (.ref ce),en "first" e2 (.ref fi),en "looks" e3 (.ref lk),en "degrees" e4 (.ref dd),en "pairs" e5 (.ref M)] fn sl),(it,ito),(N+2,aF ev)],[]⟩) rfl (by apply bq c;kernel_rfl) (by decide) (aR (fl:=[]) 3 rfl λ p hp=>nomatch hp) rfl rfl rfl rfl ae λ h g t2 L1 _ md=>?_
 refine nz h0 h92 h99 htx hit hit2 _ L1 λ P2 h g t3 b prs ps' pn' o92 o99 o151 cl sl kp r2 r3 r4 r5 r6 r7 r8 r9 L2=>?_
 obtain ⟨M2,hM2⟩:=bd h
 have h0':=h0.kept kp
 have hm5:m≤5:=by have:=h0.m45;lia
 cases b
 ·refine ma (cz id Q NE) [c0 (gI _ P2 m dd dn d td false) eD] am hM2 [.k,U,.k,.c 0 []] L2 md λ ps2=>?_
  refine bt rfl [0,1,2,3,4,5] 6 (cl++[]) (λ W=>⟨.ok .next,[(N,aV W [en "script" e0 (.ref sc),en "cells" e1 (.ref ce),en "first" e2 (.ref fi),en "looks" e3 (.ref lk),en "degrees" e4 (.ref dd),en "pairs" e5 (.ref M)] fn sl),(it,ito),(N+2,aF ev),(92,o92),(99,o99),(151,o151)],[m≤(5:Nat)∧KP W P2 dd=some (ab (ah (m+(1:Nat)) (λ k=>(↑(d k):Int)) td) dn)∧hY (List.map d (List.range (m+(1:Nat))))=false]⟩) rfl .next (by apply bq c;kernel_rfl) rfl (by decide) (f3 _ _ _ _ _ _ _) (aa ⟨hm5,h0'.dd,r2.symm⟩ ae) λ h g t4 L3=>?_
  rw [aX] at L3
  exact hR P2 h g t4 false prs ps' _ pn' _ _ o92 o99 o151 cl sl kp r2 r3 r4 r5 r6 r7 r8 r9 L3
 ·refine ma (cz id Q NE) [c0 (gI _ P2 m dd dn d td true) eD] am hM2 [.k,U,.k,.c 0 []] L2 md λ ps2=>?_
  refine bt rfl [0,1,2,3,4,5] 6 (cl++[]) (λ W=>⟨.ok .next,[(N,aV W [en "script" e0 (.ref sc),en "cells" e1 (.ref ce),en "first" e2 (.ref fi),en "looks" e3 (.ref lk),en "degrees" e4 (.ref dd),en "pairs" e5 (.ref M)] fn sl),(it,ito),(N+2,aF ev),(92,o92),(99,o99),(151,o151)],[m≤(5:Nat)∧KP W P2 dd=some (ab (ah (m+(1:Nat)) (λ k=>(↑(d k):Int)) td) dn)∧hY (List.map d (List.range (m+(1:Nat))))=true]⟩) rfl .next (by apply bq c;kernel_rfl) rfl (by decide) (f3 _ _ _ _ _ _ _) (aa ⟨hm5,h0'.dd,r2.symm⟩ ae) λ h g t4 L3=>?_
  rw [aX] at L3
  exact hR P2 h g t4 true prs ps' _ pn' _ _ o92 o99 o151 cl sl kp r2 r3 r4 r5 r6 r7 r8 r9 L3
end
section
variable {A:Around}
theorem tW {F:List Addr}{x:Addr×Obj}(L:ag K H h F ([a1,a2,a3,a4,a5,a6,x]++(cl++B)) old):ag K H h F (([a1,a2,a3,a4,a5,a6]++cl)++(x::B)) old:=by
 refine L.perm ?_
 rw [bC]
 exact List.Perm.append_left [a1,a2,a3,a4,a5,a6] (List.perm_middle (l₁:=cl) (l₂:=B) (a:=x)).symm
theorem dH {F:List Addr}{own tl:aq}(k j:Nat) (hF:F=((own.drop k).take j).map (·.1)):∀ a∈F,a∈(own++tl).map (·.1):=λ a ha=>by
 rw [hF] at ha
 obtain ⟨p,hp,rfl⟩:=aY.mp ha
 exact bW (f:=(·.1)) (aI _ (List.mem_of_mem_drop (List.mem_of_mem_take hp)))
theorem te {n:Nat}{z:NN}(hn:n=2 * prs.length) (h50:prs.length≤50) (h:∀ p∈bF (gQ (d9 prs)) (cm z n),KP w P p.1=some p.2):dG w P (dD (cm z n)) (d9 prs):=by
 have hl:(d9 prs).length=n:=by rw [pR,hn]
 refine ⟨by rw [j1,jp,hl],by lia,λ j hj=>?_⟩
 have hj':j < n:=by rw [←hl];exact hj
 refine ⟨qn z n j 0,qn z n j 1,qn z n j 2,?_,h _ (lQ hj' (.head _))⟩
 rw [iJ];exact bK hj'
theorem A5 {n:Nat}{v v':Nat→Int}{t:Nat→Tok}(h:∀ k,k < n→v k=v' k):bx (cn (ca λ i q=>.int (v i) q.1) (aw z n)) (ah n v' t) true:=by
 obtain ⟨u,e⟩:=dB v z n
 rw [e]
 refine .inr ⟨by rw [au,au],λ _=>true,λ j h1 h2=>?_,by simp⟩
 have hj:j < n:=by rw [au] at h1;exact h1
 have e1:=aG (v:=v) (t:=u) hj
 have e2:=aG (v:=v') (t:=t) hj
 rw [i9 h1] at e1
 rw [i9 h2] at e2
 rw [bo e1,bo e2]
 exact .inr (.inl ⟨_,_,_,_,rfl,rfl,by rw [h j hj];simp⟩)
noncomputable def xN:Stmt:=fe (bA dU) 3
theorem uR:[fe (bA dU) 3]=[.If (.BoolOp .And [qU 0 (cO xN),qU 1 (cO xN)] (EB (cO xN))) (H0 xN) [] (Ik xN)]:=by kernel_rfl
theorem FO (hpp:KP w P pp=some (ab ps pn)) (hp:cq w P ps prs) (h50:prs.length≤50) (hl:prs.length=0) (Q:Flow→Shared→Prop)
  (L:ag (KP w P) H hh [92,99,151] ([(N,aV w [en "script" e0 (.ref sc),en "cells" e1 (.ref ce),en "first" e2 (.ref fi),en "looks" e3 (.ref lk),en "degrees" e4 (.ref dd),en "pairs" e5 (.ref pp)] fn sl),(it,ito),(N+2,aF ev),(92,o92),(99,o99),(151,o151)]++cl) [])
  (hR:∀ (P':KF) (h:Heap) (g:BG) (t' ea nn:Nat) (xs:VA),cx w P P'→KP w P' ea=some (ab xs nn)→dG w P' xs (d9 prs)→
   ag (KP w P') H h [92,99,151] ([(N,aV w [en "script" e0 (.ref sc),en "cells" e1 (.ref ce),en "first" e2 (.ref fi),en "looks" e3 (.ref lk),en "degrees" e4 (.ref dd),en "pairs" e5 (.ref pp)] fn sl),(it,ito),(N+2,ak (.ref ea)),(92,o92),(99,o99),(151,o151)]++cl) []→Q .next ⟨h,g,dr,t',os⟩):
  wpOwn (model pg w) (kW [be N]) (kR N it) (execs Eg (be N)) Q NE ⟨hh,gg,dr,tt,os⟩:=by
 obtain ⟨M,hM⟩:=bd hh
 have hpf:=f9 hpp am
 obtain ⟨w,c,rfl⟩:=cB w
 refine wW [c0 (sj _ P N pp pn 0 ps prs) nO] hpf (bp (by kernel_rfl)) L hM [U,aL,aL,.e,aL,.e,U,.c 0 [2,1,0],U,U,fv,fv] λ ps0=>?_
 refine bt rfl [3,4,5,6,7,8,1] 9 (cl++bF (gQ (d9 prs)) (cm (ps0 0).as (2 * 0))) (λ W=>⟨.ok .next,[(N,aV W [en "script" e0 (.ref sc),en "cells" e1 (.ref ce),en "first" e2 (.ref fi),en "looks" e3 (.ref lk),en "degrees" e4 (.ref dd),en "pairs" e5 (.ref pp)] fn sl),(it,ito),(N+2,ak (.ref (M+1))),(92,o92),(99,o99),(151,o151),(M+1,ab (dD (cm (ps0 0).as (2 * 0))) ((ps0 0).as 0))],[KP W P pp=some (ab ps pn)∧cq W P ps prs∧prs.length=(0:Nat)∧(0:Nat)≤(50:Nat)]⟩) rfl .next (by apply bq c;kernel_rfl) rfl (by decide) (dH 3 3 rfl) (aa ⟨hpp,hp,hl,by lia⟩ ae) λ h g t4 L3=>?_
 generalize (ps0 0).as=z at L3
 obtain ⟨ea,hea⟩:∃ ea,M+1=ea:=⟨_,rfl⟩
 rw [hea] at L3
 have L4:=tW L3
 obtain ⟨L5,hS,nS⟩:=L4.stay (dH 3 3 rfl)
 refine hR _ h g t4 ea (z 0) (dD (cm z (2 * 0))) (eU hS) (cy nS hS (.head _)) (te (by rw [hl]) h50 λ p hp=>cy nS hS (.tail _ hp)) L5
theorem FL (hpp:KP w P pp=some (ab ps pn)) (hp:cq w P ps prs) (h50:prs.length≤50) (hl:prs.length=(r+1)) (Q:Flow→Shared→Prop)
  (L:ag (KP w P) H hh [92,99,151] ([(N,aV w [en "script" e0 (.ref sc),en "cells" e1 (.ref ce),en "first" e2 (.ref fi),en "looks" e3 (.ref lk),en "degrees" e4 (.ref dd),en "pairs" e5 (.ref pp)] fn sl),(it,ito),(N+2,aF ev),(92,o92),(99,o99),(151,o151)]++cl) [])
  (hR:∀ (P':KF) (h:Heap) (g:BG) (t' ea nn:Nat) (xs:VA),cx w P P'→KP w P' ea=some (ab xs nn)→dG w P' xs (d9 prs)→
   ag (KP w P') H h [92,99,151] ([(N,aV w [en "script" e0 (.ref sc),en "cells" e1 (.ref ce),en "first" e2 (.ref fi),en "looks" e3 (.ref lk),en "degrees" e4 (.ref dd),en "pairs" e5 (.ref pp)] fn sl),(it,ito),(N+2,ak (.ref ea)),(92,o92),(99,o99),(151,o151)]++cl) []→Q .next ⟨h,g,dr,t',os⟩):
  wpOwn (model pg w) (kW [be N]) (kR N it) (execs Eg (be N)) Q NE ⟨hh,gg,dr,tt,os⟩:=by
 obtain ⟨M,hM⟩:=bd hh
 have hpf:=f9 hpp am
 obtain ⟨w,c,rfl⟩:=cB w
 refine wW [c0 (sj _ P N pp pn (r+1) ps prs) nO] hpf (bp (by kernel_rfl)) L hM [U,aL,aL,.e,aL,.e,U,.c 0 [2,1,0],U,U,U,U,U,U,fv,fv] λ ps0=>?_
 refine bt rfl [3,4,5,6,7,8,1] 9 (cl++bF (gQ (d9 prs)) (cm (ps0 0).as (2 * (r+1)))) (λ W=>⟨.ok .next,[(N,aV W [en "script" e0 (.ref sc),en "cells" e1 (.ref ce),en "first" e2 (.ref fi),en "looks" e3 (.ref lk),en "degrees" e4 (.ref dd),en "pairs" e5 (.ref pp)] fn sl),(it,ito),(N+2,ak (.ref (M+1))),(92,o92),(99,o99),(151,o151),(M+1,ab (dD (cm (ps0 0).as (2 * (r+1)))) ((ps0 0).as 0))],[KP W P pp=some (ab ps pn)∧cq W P ps prs∧prs.length=r+(1:Nat)∧r+(1:Nat)≤(50:Nat)]⟩) rfl .next (by apply bq c;kernel_rfl) rfl (by decide) (dH 3 3 rfl) (aa ⟨hpp,hp,hl,by lia⟩ ae) λ h g t4 L3=>?_
 generalize (ps0 0).as=z at L3
 obtain ⟨ea,hea⟩:∃ ea,M+1=ea:=⟨_,rfl⟩
 rw [hea] at L3
 have L4:=tW L3
 obtain ⟨L5,hS,nS⟩:=L4.stay (dH 3 3 rfl)
 refine hR _ h g t4 ea (z 0) (dD (cm z (2 * (r+1)))) (eU hS) (cy nS hS (.head _)) (te (by rw [hl]) h50 λ p hp=>cy nS hS (.tail _ hp)) L5
theorem Gg (h0:PA w P m dd lk dn ln (ah (m+1) (λ k=>(d k:Int)) td) lA d lo td tl) (hc1:KP w P (N+1)=some (ak (.int ((m+1:Nat):Int) kc))) (hea:KP w P ea=some (ab xs nn)) (hE:dG w P xs (d9 prs)) (hb:hY ((List.range (m+1)).map d)=false) (hct:∀ k,k < m+1→false=true→gk k prs=d k) (Q:Flow→Shared→Prop)
  (L:ag (KP w P) H hh [92,99,151] ([(N,aV w [en "script" e0 (.ref sc),en "cells" e1 (.ref ce),en "first" e2 (.ref fi),en "looks" e3 (.ref lk),en "degrees" e4 (.ref dd),en "pairs" e5 (.ref pp)] fn sl),(it,ito),(N+2,ak (.ref ea)),(92,o92),(99,o99),(151,o151)]++cl) [])
  (hR:∀ (h:Heap) (g:BG) (t':Nat),ag (KP w P) H h [92,99,151] ([(N,aV w [en "script" e0 (.ref sc),en "cells" e1 (.ref ce),en "first" e2 (.ref fi),en "looks" e3 (.ref lk),en "degrees" e4 (.ref dd),en "pairs" e5 (.ref pp)] fn sl),(it,ito),(N+2,ak (.ref ea)),(92,o92),(99,o99),(151,o151)]++cl) []→Q .next ⟨h,g,dr,t',os⟩):
  wpOwn (model pg w) (kW [be N]) (kR N it) (execs [fe (bA dU) 3] (be N)) Q NE ⟨hh,gg,dr,tt,os⟩:=by
 obtain ⟨M,hM⟩:=bd hh
 have hm5:m≤5:=by have:=h0.m45;lia
 have hct2:∀ k,k < m+1→false=true→(((d9 prs).count k:Nat):Int)=(d k:Int):=λ k hk e=>by rw [ja,hct k hk e]
 have hpf:=f9 h0.dd (f9 hc1 am)
 rw [uR]
 obtain ⟨w,c,rfl⟩:=cB w
 refine oQ (pU (Sm.own (lI (bp (by kernel_rfl)) 0 _ _) ?_))
 refine dj kT (V:=vc _ P [c0 (gI _ P m dd dn d td false) eD] [] [] H [92,99,151] M tt gg dr os (cz kT _ NE)) (cR am) [.k,U,.k,.c 0 []] rfl L hM λ ps=>?_
 refine bh rfl [0,1,2,3,4,5] 6 (cl++[]) (λ W=>⟨.ok (.ret (.bool false)),[(N,aV W [en "script" e0 (.ref sc),en "cells" e1 (.ref ce),en "first" e2 (.ref fi),en "looks" e3 (.ref lk),en "degrees" e4 (.ref dd),en "pairs" e5 (.ref pp)] fn sl),(it,ito),(N+2,ak (.ref ea)),(92,o92),(99,o99),(151,o151)],[m≤(5:Nat)∧KP W P dd=some (ab (ah (m+(1:Nat)) (λ k=>(↑(d k):Int)) td) dn)∧hY (List.map d (List.range (m+(1:Nat))))=false]⟩) rfl false (by apply bq c;kernel_rfl) rfl qH (by decide) (dH 3 3 rfl) (aa ⟨hm5,h0.dd,hb⟩ ae) λ h g t4 L3=>?_
 rw [aX] at L3
 show wpOwn _ _ _ (execs [] (be N)) _ _ _
 rw [execs_nil]
 exact aP (hR h g t4 L3)
theorem Fr (h0:PA w P m dd lk dn ln (ah (m+1) (λ k=>(d k:Int)) td) lA d lo td tl) (hc1:KP w P (N+1)=some (ak (.int ((m+1:Nat):Int) kc))) (hea:KP w P ea=some (ab xs nn)) (hE:dG w P xs (d9 prs)) (hb:hY ((List.range (m+1)).map d)=true) (hct:∀ k,k < m+1→true=true→gk k prs=d k) (Q:Flow→Shared→Prop)
  (L:ag (KP w P) H hh [92,99,151] ([(N,aV w [en "script" e0 (.ref sc),en "cells" e1 (.ref ce),en "first" e2 (.ref fi),en "looks" e3 (.ref lk),en "degrees" e4 (.ref dd),en "pairs" e5 (.ref pp)] fn sl),(it,ito),(N+2,ak (.ref ea)),(92,o92),(99,o99),(151,o151)]++cl) [])
  (hR:∀ (h:Heap) (g:BG) (t':Nat),ag (KP w P) H h [92,99,151] ([(N,aV w [en "script" e0 (.ref sc),en "cells" e1 (.ref ce),en "first" e2 (.ref fi),en "looks" e3 (.ref lk),en "degrees" e4 (.ref dd),en "pairs" e5 (.ref pp)] fn sl),(it,ito),(N+2,ak (.ref ea)),(92,o92),(99,o99),(151,o151)]++cl) []→Q .next ⟨h,g,dr,t',os⟩):
  wpOwn (model pg w) (kW [be N]) (kR N it) (execs [fe (bA dU) 3] (be N)) Q NE ⟨hh,gg,dr,tt,os⟩:=by
 obtain ⟨M,hM⟩:=bd hh
 have hm5:m≤5:=by have:=h0.m45;lia
 have hct2:∀ k,k < m+1→(((d9 prs).count k:Nat):Int)=(d k:Int):=λ k hk=>by rw [ja,hct k hk rfl]
 have hpf:=f9 h0.dd (f9 hc1 am)
 rw [uR]
 obtain ⟨w,c,rfl⟩:=cB w
 refine oQ (pU (Sm.own (lI (bp (by kernel_rfl)) 0 _ _) ?_))
 refine dj kT (V:=vc _ P [c0 (gI _ P m dd dn d td true) eD] [] [] H [92,99,151] M tt gg dr os (cz kT _ NE)) (cR am) [.k,U,.k,.c 0 []] rfl L hM λ ps=>?_
 refine bh rfl [0,1,2,3,4,5] 6 (cl++[]) (λ W=>⟨.ok (.ret (.bool true)),[(N,aV W [en "script" e0 (.ref sc),en "cells" e1 (.ref ce),en "first" e2 (.ref fi),en "looks" e3 (.ref lk),en "degrees" e4 (.ref dd),en "pairs" e5 (.ref pp)] fn sl),(it,ito),(N+2,ak (.ref ea)),(92,o92),(99,o99),(151,o151)],[m≤(5:Nat)∧KP W P dd=some (ab (ah (m+(1:Nat)) (λ k=>(↑(d k):Int)) td) dn)∧hY (List.map d (List.range (m+(1:Nat))))=true]⟩) rfl true (by apply bq c;kernel_rfl) rfl qH (by decide) (dH 3 3 rfl) (aa ⟨hm5,h0.dd,hb⟩ ae) λ h g t4 L3=>?_
 rw [aX] at L3
 obtain ⟨M2,hM2⟩:=bd h
 refine Sm.own (lI (bp (by kernel_rfl)) 2 _ _) ?_
 refine dj kT (V:=vc _ P [eI (m+1),c0 (Dn _ P N m ea nn xs (d9 prs)) zk,y3 true] [(dd,ab (ah (m+1) (λ k=>(d k:Int)) td) dn),(N+1,ak (.int ((m+1:Nat):Int) kc))] [] H [92,99,151] M2 t4 g dr os (cz kT _ NE)) (cR hpf) [.k,.k,bY,.e,.e,.e,.e,U,U,.e,U,.e,U,U,U,.e,U,.c 0 [0],U,.c 1 [2,1,0,6],U,U,U,aK,ay,aL,ay,.e,ay,.c 2 [1,2000]] rfl L3 hM2 λ ps2=>?_
 refine bh rfl [4,5,6,7,8,9] 10 (cl++ec nF (aw (ps2 1).as (m+1))) (λ W=>⟨.ok (.ret (.bool false)),[(N,aV W [en "script" e0 (.ref sc),en "cells" e1 (.ref ce),en "first" e2 (.ref fi),en "looks" e3 (.ref lk),en "degrees" e4 (.ref dd),en "pairs" e5 (.ref pp)] fn sl),(it,ito),(N+2,ak (.ref ea)),(92,o92),(99,o99),(151,o151)],[bx (cn (ca λ i q=>Value.int (↑(List.count i (d9 prs)):Int) q.fst) (aw (ps2 1).as (m+(1:Nat)))) (ah (m+(1:Nat)) (λ k=>(↑(d k):Int)) td) true,m≤(5:Nat),KP W P ea=some (ab xs nn),dG W P xs (d9 prs),m+(1:Nat) < (1000:Nat)]⟩) rfl false (by apply bq c;kernel_rfl) rfl qH (by decide) (dH 3 3 rfl) ?_ λ h g t5 L4=>?_
 ·exact aa (A5 hct2) (aa hm5 (aa hea (aa hE (aa (by lia:m+1 < 1000) ae))))
 show wpOwn _ _ _ (execs [] (be N)) _ _ _
 rw [execs_nil]
 simp only [aX,bR] at L4
 exact aP (hR h g t5 L4)
end
section
variable {A:Around}
theorem BB {s:String}{vs:VA}(h:s≠"dict"):oY (dS (.type s) vs):=⟨s,rfl,h⟩
theorem uZ:oY (dS (.type "tuple_iterator") #[.ref tp,.int k 0]):=BB (by decide)
theorem xU:(dS (.type "tuple_iterator") #[.ref tp,.int k 0]).cls≠.type "tuple":=λ e=>absurd (Value.type.inj e) (by decide)
theorem yG (htp:KP w P tp=some (aU #[.ref d1,.ref d2] tv)) (R:RP)
  (L:ag (KP w P) H hh [92,99,151] ([(N,aV w [en "script" e0 (.ref sc),en "cells" e1 (.ref ce),en "first" e2 (.ref fi),en "looks" e3 (.ref lk)] fn sl),(it,dS (.type "tuple_iterator") #[.ref tp,.int 0 0]),(N+2,aF ev),(92,o92),(99,o99),(151,o151)]++cl) [])
  (hQ:∀ (h:Heap) (g:BG) (t' fn e4:Nat),ag (KP w P) H h [92,99,151] ([(N,aV w [en "script" e0 (.ref sc),en "cells" e1 (.ref ce),en "first" e2 (.ref fi),en "looks" e3 (.ref lk),en "degrees" e4 (.ref d1)] fn sl),(it,dS (.type "tuple_iterator") #[.ref tp,.int 1 0]),(N+2,aF ev),(92,o92),(99,o99),(151,o151)]++cl) []→
   wpOwn (model pg w) (kW [be N]) (kR N it) (execs (bA dU) (be N)) (λ f s₃=>match f with
    |.next|.cont=>codeAny (model pg w) (kW [be N]) (kR N it) R s₃
    |.brk=>R (.ok .next) s₃
    |.ret v=>R (.ok (.ret v)) s₃) NE ⟨h,g,dr,t',os⟩):
  codeAny (model pg w) (kW [be N]) (kR N it) R ⟨hh,gg,dr,tt,os⟩:=by
 obtain ⟨M,hM⟩:=bd hh
 have hpf:=f9 htp am
 obtain ⟨w,c,rfl⟩:=cB w
 refine jB ?_
 refine w2 [] hpf L hM [ay,.e,ay,.e,ay,ay,aL,ay,ay] λ ps=>?_
 refine bh rfl [0,1,2,3,4,5] 6 cl (λ W=>⟨.ok (.ret (.ref d1)),[(N,aV W [en "script" e0 (.ref sc),en "cells" e1 (.ref ce),en "first" e2 (.ref fi),en "looks" e3 (.ref lk)] fn sl),(it,dS (.type "tuple_iterator") #[.ref tp,.int 1 0]),(N+2,aF ev),(92,o92),(99,o99),(151,o151)],[]⟩) rfl (some (.ref d1)) (by apply bq c;kernel_rfl) rfl p5 (by decide) (dH 3 3 rfl) ae λ h g t2 L2=>?_
 obtain ⟨M2,hM2⟩:=bd h
 refine yl [] am L2 hM2 [U,U] λ ps1=>?_
 refine bh rfl [0,1,2,3,4,5] 6 cl (λ W=>⟨.ok .next,[(N,aV W [en "script" e0 (.ref sc),en "cells" e1 (.ref ce),en "first" e2 (.ref fi),en "looks" e3 (.ref lk),en "degrees" t2 (.ref d1)] (fn+1) sl),(it,dS (.type "tuple_iterator") #[.ref tp,.int 1 0]),(N+2,aF ev),(92,o92),(99,o99),(151,o151)],[]⟩) rfl () (by apply bq c;kernel_rfl) rfl qN (by decide) (dH 3 3 rfl) ae λ h g t3 L3=>?_
 exact hQ h g t3 _ _ L3
theorem zF {f4:Tok}(htp:KP w P tp=some (aU #[.ref d1,.ref d2] tv)) (R:RP)
  (L:ag (KP w P) H hh [92,99,151] ([(N,aV w [en "script" e0 (.ref sc),en "cells" e1 (.ref ce),en "first" e2 (.ref fi),en "looks" e3 (.ref lk),en "degrees" f4 (.ref d1),en "pairs" e5 (.ref pp)] fn sl),(it,dS (.type "tuple_iterator") #[.ref tp,.int 1 0]),(N+2,aF ev),(92,o92),(99,o99),(151,o151)]++cl) [])
  (hQ:∀ (h:Heap) (g:BG) (t' fn e4:Nat),ag (KP w P) H h [92,99,151] ([(N,aV w [en "script" e0 (.ref sc),en "cells" e1 (.ref ce),en "first" e2 (.ref fi),en "looks" e3 (.ref lk),en "degrees" e4 (.ref d2),en "pairs" e5 (.ref pp)] fn sl),(it,dS (.type "tuple_iterator") #[.ref tp,.int 2 0]),(N+2,aF ev),(92,o92),(99,o99),(151,o151)]++cl) []→
   wpOwn (model pg w) (kW [be N]) (kR N it) (execs (bA dU) (be N)) (λ f s₃=>match f with
    |.next|.cont=>codeAny (model pg w) (kW [be N]) (kR N it) R s₃
    |.brk=>R (.ok .next) s₃
    |.ret v=>R (.ok (.ret v)) s₃) NE ⟨h,g,dr,t',os⟩):
  codeAny (model pg w) (kW [be N]) (kR N it) R ⟨hh,gg,dr,tt,os⟩:=by
 obtain ⟨M,hM⟩:=bd hh
 have hpf:=f9 htp am
 obtain ⟨w,c,rfl⟩:=cB w
 refine jB ?_
 refine w2 [] hpf L hM [ay,.e,ay,.e,ay,ay,aL,ay,ay] λ ps=>?_
 refine bh rfl [0,1,2,3,4,5] 6 cl (λ W=>⟨.ok (.ret (.ref d2)),[(N,aV W [en "script" e0 (.ref sc),en "cells" e1 (.ref ce),en "first" e2 (.ref fi),en "looks" e3 (.ref lk),en "degrees" f4 (.ref d1),en "pairs" e5 (.ref pp)] fn sl),(it,dS (.type "tuple_iterator") #[.ref tp,.int 2 0]),(N+2,aF ev),(92,o92),(99,o99),(151,o151)],[]⟩) rfl (some (.ref d2)) (by apply bq c;kernel_rfl) rfl p5 (by decide) (dH 3 3 rfl) ae λ h g t2 L2=>?_
 obtain ⟨M2,hM2⟩:=bd h
 refine yl [] am L2 hM2 [U,U] λ ps1=>?_
 refine bh rfl [0,1,2,3,4,5] 6 cl (λ W=>⟨.ok .next,[(N,aV W [en "script" e0 (.ref sc),en "cells" e1 (.ref ce),en "first" e2 (.ref fi),en "looks" e3 (.ref lk),en "degrees" f4 (.ref d2),en "pairs" e5 (.ref pp)] fn sl),(it,dS (.type "tuple_iterator") #[.ref tp,.int 2 0]),(N+2,aF ev),(92,o92),(99,o99),(151,o151)],[]⟩) rfl () (by apply bq c;kernel_rfl) rfl qN (by decide) (dH 3 3 rfl) ae λ h g t3 L3=>?_
 exact hQ h g t3 _ _ L3
theorem Dv {x0 x2:Obj}(htp:KP w P tp=some (aU #[.ref d1,.ref d2] tv)) (R:RP)
  (L:ag (KP w P) H hh [92,99,151] ([(N,x0),(it,dS (.type "tuple_iterator") #[.ref tp,.int 2 0]),(N+2,x2),(92,o92),(99,o99),(151,o151)]++cl) [])
  (hR:∀ (h:Heap) (g:BG) (t':Nat),ag (KP w P) H h [92,99,151] ([(N,x0),(92,o92),(99,o99),(151,o151)]++cl) []→R (.ok .next) ⟨h,g,dr,t',os⟩):
  codeAny (model pg w) (kW [be N]) (kR N it) R ⟨hh,gg,dr,tt,os⟩:=by
 obtain ⟨M,hM⟩:=bd hh
 have hpf:=f9 htp am
 obtain ⟨w,c,rfl⟩:=cB w
 refine dv [] hpf [ay,.e,ay,.e,ay,ay,aL,ay,ay,U,.e] L hM λ ps=>?_
 refine ba [2,5,6,7] 8 cl (λ W=>⟨.ok .next,[(N,x0),(92,o92),(99,o99),(151,o151)],[]⟩) rfl (by apply bq c;kernel_rfl) (by decide) (dH 1 3 rfl) ae λ h' g' t' L'=>?_
 exact hR _ _ _ L'
end
theorem y5 (h0:PA w P m dd lk dn ln (ah (m+1) (λ k=>(d k:Int)) td) lA d lo td tl) (hc1:KP w P (N+1)=some (ak (.int ((m+1:Nat):Int) kc))) (h92:al 61 19 o92) (h99:al 64 32 o99) (htx:fh o151 cl) (hit:oY ito) (hit2:ito.cls≠.type "tuple") (R:RP)
  (L:ag (KP w P) H hh [92,99,151] ([(N,aV w [en "script" e0 (.ref sc),en "cells" e1 (.ref ce),en "first" e2 (.ref fi),en "looks" e3 (.ref lk),en "degrees" e4 (.ref dd)] fn sl),(it,ito),(N+2,aF ev),(92,o92),(99,o99),(151,o151)]++cl) [])
  (hN:∀ (P':KF) (h:Heap) (g:BG) (t' fn e5 pp:Nat) (sl:iT) (ev:Option Value) (o92 o99 o151:Obj) (cl:aq),cx w P P'→al 61 19 o92→al 64 32 o99→fh o151 cl→ag (KP w P') H h [92,99,151] ([(N,aV w [en "script" e0 (.ref sc),en "cells" e1 (.ref ce),en "first" e2 (.ref fi),en "looks" e3 (.ref lk),en "degrees" e4 (.ref dd),en "pairs" e5 (.ref pp)] fn sl),(it,ito),(N+2,aF ev),(92,o92),(99,o99),(151,o151)]++cl) []→codeAny (model pg w) (kW [be N]) (kR N it) R ⟨h,g,dr,t',os⟩):
  wpOwn (model pg w) (kW [be N]) (kR N it) (execs (bA dU) (be N)) (λ f s₃=>match f with
    |.next|.cont=>codeAny (model pg w) (kW [be N]) (kR N it) R s₃
    |.brk=>R (.ok .next) s₃
    |.ret v=>R (.ok (.ret v)) s₃) NE ⟨hh,gg,dr,tt,os⟩:=by
 rw [l3]
 refine dY ?_
 refine Ht h0 h92 h99 htx hit hit2 _ L λ P1 h g t b prs ps pp pn fn e5 o92 o99 o151 cl sl k1 hb hct h50 hpr hpp q92 q99 qtx L1=>?_
 refine dY ?_
 have fin:∀ (P2:KF) (h:Heap) (g:BG) (t ea nn:Nat) (xs:VA),cx w P1 P2→KP w P2 ea=some (ab xs nn)→dG w P2 xs (d9 prs)→ag (KP w P2) H h [92,99,151] ([(N,aV w [en "script" e0 (.ref sc),en "cells" e1 (.ref ce),en "first" e2 (.ref fi),en "looks" e3 (.ref lk),en "degrees" e4 (.ref dd),en "pairs" e5 (.ref pp)] fn sl),(it,ito),(N+2,ak (.ref ea)),(92,o92),(99,o99),(151,o151)]++cl) []→
   wpOwn (model pg w) (kW [be N]) (kR N it) (execs [fe (bA dU) 3] (be N)) (λ f s₃=>match f with
    |.next|.cont=>codeAny (model pg w) (kW [be N]) (kR N it) R s₃
    |.brk=>R (.ok .next) s₃
    |.ret v=>R (.ok (.ret v)) s₃) NE ⟨h,g,dr,t,os⟩:=λ P2 h g t ea nn xs k2 hea hE L2=>by
  have kk:=k1.trans k2
  induction b with
  |false=>exact Gg (h0.kept kk) (kk _ _ bj hc1) hea hE hb.symm (λ k hk e=>by cases e) _ L2 λ h g t' L3=>hN P2 h g t' fn e5 pp sl _ o92 o99 o151 cl kk q92 q99 qtx L3
  |true=>exact Fr (h0.kept kk) (kk _ _ bj hc1) hea hE hb.symm (λ k hk _=>hct rfl k hk) _ L2 λ h g t' L3=>hN P2 h g t' fn e5 pp sl _ o92 o99 o151 cl kk q92 q99 qtx L3
 cases hl:prs.length with
 |zero=>exact FO hpp hpr h50 hl _ L1 λ P2 h g t ea nn xs k2 hea hE L2=>fin P2 h g t ea nn xs k2 hea hE L2
 |succ r=>exact FL hpp hpr h50 hl _ L1 λ P2 h g t ea nn xs k2 hea hE L2=>fin P2 h g t ea nn xs k2 hea hE L2
theorem xZ (h0:PA w P m dd lk dn ln (ah (m+1) (λ k=>(d k:Int)) td) lA d lo td tl) (hc1:KP w P (N+1)=some (ak (.int ((m+1:Nat):Int) kc))) (h92:al 61 19 o92) (h99:al 64 32 o99) (htx:fh o151 cl) (hit:oY ito) (hit2:ito.cls≠.type "tuple") (R:RP)
  (L:ag (KP w P) H hh [92,99,151] ([(N,aV w [en "script" e0 (.ref sc),en "cells" e1 (.ref ce),en "first" e2 (.ref fi),en "looks" e3 (.ref lk),en "degrees" e4 (.ref dd),en "pairs" e5 (.ref pq)] fn sl),(it,ito),(N+2,aF ev),(92,o92),(99,o99),(151,o151)]++cl) [])
  (hN:∀ (P':KF) (h:Heap) (g:BG) (t' fn e5 pp:Nat) (sl:iT) (ev:Option Value) (o92 o99 o151:Obj) (cl:aq),cx w P P'→al 61 19 o92→al 64 32 o99→fh o151 cl→ag (KP w P') H h [92,99,151] ([(N,aV w [en "script" e0 (.ref sc),en "cells" e1 (.ref ce),en "first" e2 (.ref fi),en "looks" e3 (.ref lk),en "degrees" e4 (.ref dd),en "pairs" e5 (.ref pp)] fn sl),(it,ito),(N+2,aF ev),(92,o92),(99,o99),(151,o151)]++cl) []→codeAny (model pg w) (kW [be N]) (kR N it) R ⟨h,g,dr,t',os⟩):
  wpOwn (model pg w) (kW [be N]) (kR N it) (execs (bA dU) (be N)) (λ f s₃=>match f with
    |.next|.cont=>codeAny (model pg w) (kW [be N]) (kR N it) R s₃
    |.brk=>R (.ok .next) s₃
    |.ret v=>R (.ok (.ret v)) s₃) NE ⟨hh,gg,dr,tt,os⟩:=by
 rw [l3]
 refine dY ?_
 refine HD h0 h92 h99 htx hit hit2 _ L λ P1 h g t b prs ps pp pn fn e5 o92 o99 o151 cl sl k1 hb hct h50 hpr hpp q92 q99 qtx L1=>?_
 refine dY ?_
 have fin:∀ (P2:KF) (h:Heap) (g:BG) (t ea nn:Nat) (xs:VA),cx w P1 P2→KP w P2 ea=some (ab xs nn)→dG w P2 xs (d9 prs)→ag (KP w P2) H h [92,99,151] ([(N,aV w [en "script" e0 (.ref sc),en "cells" e1 (.ref ce),en "first" e2 (.ref fi),en "looks" e3 (.ref lk),en "degrees" e4 (.ref dd),en "pairs" e5 (.ref pp)] fn sl),(it,ito),(N+2,ak (.ref ea)),(92,o92),(99,o99),(151,o151)]++cl) []→
   wpOwn (model pg w) (kW [be N]) (kR N it) (execs [fe (bA dU) 3] (be N)) (λ f s₃=>match f with
    |.next|.cont=>codeAny (model pg w) (kW [be N]) (kR N it) R s₃
    |.brk=>R (.ok .next) s₃
    |.ret v=>R (.ok (.ret v)) s₃) NE ⟨h,g,dr,t,os⟩:=λ P2 h g t ea nn xs k2 hea hE L2=>by
  have kk:=k1.trans k2
  induction b with
  |false=>exact Gg (h0.kept kk) (kk _ _ bj hc1) hea hE hb.symm (λ k hk e=>by cases e) _ L2 λ h g t' L3=>hN P2 h g t' fn e5 pp sl _ o92 o99 o151 cl kk q92 q99 qtx L3
  |true=>exact Fr (h0.kept kk) (kk _ _ bj hc1) hea hE hb.symm (λ k hk _=>hct rfl k hk) _ L2 λ h g t' L3=>hN P2 h g t' fn e5 pp sl _ o92 o99 o151 cl kk q92 q99 qtx L3
 cases hl:prs.length with
 |zero=>exact FO hpp hpr h50 hl _ L1 λ P2 h g t ea nn xs k2 hea hE L2=>fin P2 h g t ea nn xs k2 hea hE L2
 |succ r=>exact FL hpp hpr h50 hl _ L1 λ P2 h g t ea nn xs k2 hea hE L2=>fin P2 h g t ea nn xs k2 hea hE L2
theorem Br {dn1 dn2:Nat}{da db:Nat→Nat}{ta tb:Nat→Tok}(h1:PA w P m d1 lk dn1 ln (ah (m+1) (λ k=>(da k:Int)) ta) lA da lo ta tl) (h2:PA w P m d2 lk dn2 ln (ah (m+1) (λ k=>(db k:Int)) tb) lA db lo tb tl) (hc1:KP w P (N+1)=some (ak (.int ((m+1:Nat):Int) kc))) (htp:KP w P tp=some (aU #[.ref d1,.ref d2] tv)) (h92:al 61 19 o92) (h99:al 64 32 o99) (htx:fh o151 cl) (R:RP)
  (L:ag (KP w P) H hh [92,99,151] ([(N,aV w [en "script" e0 (.ref sc),en "cells" e1 (.ref ce),en "first" e2 (.ref fi),en "looks" e3 (.ref lk)] fn sl),(it,dS (.type "tuple_iterator") #[.ref tp,.int 0 0]),(N+2,aF ev),(92,o92),(99,o99),(151,o151)]++cl) [])
  (hR:∀ (P':KF) (h:Heap) (g:BG) (t':Nat) (x0 o92 o99 o151:Obj) (cl:aq),al 61 19 o92→al 64 32 o99→fh o151 cl→ag (KP w P') H h [92,99,151] ([(N,x0),(92,o92),(99,o99),(151,o151)]++cl) []→R (.ok .next) ⟨h,g,dr,t',os⟩):
  codeAny (model pg w) (kW [be N]) (kR N it) R ⟨hh,gg,dr,tt,os⟩:=by
 refine yG htp R L λ h g t fn e4 L1=>?_
 refine y5 h1 hc1 h92 h99 htx uZ xU R L1 λ P1 h g t fn e5 pp sl ev o92 o99 o151 cl k1 h92 h99 htx L2=>?_
 refine zF (k1 _ _ f6 htp) R L2 λ h g t fn e4 L3=>?_
 refine xZ (h2.kept k1) (k1 _ _ bj hc1) h92 h99 htx uZ xU R L3 λ P2 h g t fn e5 pp sl ev o92 o99 o151 cl k2 h92 h99 htx L4=>?_
 refine Dv (k2 _ _ f6 (k1 _ _ f6 htp)) R L4 λ h g t L5=>?_
 exact hR P2 h g t _ _ _ _ cl h92 h99 htx L5
section
variable {A:Around}
noncomputable def Cq (k:Int) (v:Int) (as:List Value) (l:List Nat) (e:LE):CX "list.__getitem__" as e:=match as with
 |[p,q]=>match p with
  |.ref a=>match q with
   |.int k' u=>cH e l a λ j a' o l' hi=>jz ⟨λ z=>.ok (.ret (.int v (z 0))),λ _=>e.own,[.v (.int k' 0) (.int k 0),.v (.ref a) (.ref a'),.o o (ab (ad o) (ao o))],[0≤k∧k < 2 ^ 63,∃ t,(ad o)[k.toNat]?=some (.int v t)]⟩ λ w P hq ho H F' h g d t os R L hp x=>by
    have e0:=(Value.int.inj (hq _ (.head _))).1
    have e1:a=a':=bz (hq _ bU)
    have e2:o=ab (ad o) (ao o):=hq _ fG
    have e3:=ho _ (.head _)
    obtain ⟨tv,e4⟩:=ho _ bU
    subst e0 e1
    refine nM (xs:=ad o) (k:=k') (v:=.int v tv) hi w P ?_ ?_ H F' h g d t os R L hp ?_
    ·exact f0.mpr ⟨rfl,f0.mpr ⟨rfl,f0.mpr ⟨e2,λ _ h=>nomatch h⟩⟩⟩
    ·exact aa e3 (aa e4 ae)
    ·exact λ as h' g' t' hg L'=>x (λ _=>tv) h' g' t' hg L'
   |_=>cG
  |_=>cG
 |_=>cG
noncomputable def zB (k:Int) (v:Int):Ct:=ef "list.__getitem__" (Cq k v)
theorem v6 (w:World) (P:KF) (k:Int) (v:Int):cT pg w (KP w P) (zB k v):=bH _ w P
noncomputable abbrev Gp (k:Int) (v:Int):dQ w P:=⟨zB k v,v6 w P k v⟩
theorem Dl {n:Nat}(hm:m=4∨m=5) (h1:KP w P dd=some (ab (ah (m+1) (λ i=>(d i:Int)) td) dn)) (h2:KP w P lk=some (ab (ah n (λ i=>(G6 c m i:Int)) tl) ln)) (hn:m+1 < n) (hd:∀ k,d k≤m) (hc:∀ i,c i < 10 ^ 9):PA w P m dd lk dn ln (ah (m+1) (λ i=>(d i:Int)) td) (ah n (λ i=>(G6 c m i:Int)) tl) d (G6 c m) td tl:=
 ⟨hm,h1,h2,au,λ k hk=>aG hk,λ k hk=>aG (by lia),λ k _=>hd k,λ k=>Nat.lt_of_le_of_lt (Nat.div_le_self _ _) (hc k)⟩
theorem F8 {k:Nat}:Fj c m k≤m:=by
 have:c k % (m+1) < m+1:=Nat.mod_lt _ (Nat.succ_pos m)
 unfold Fj;lia
theorem GM {k:Nat}:GZ c m k≤m:=by
 have h1:c k % (m+1) < m+1:=Nat.mod_lt _ (Nat.succ_pos m)
 have h2:(c 0 % (m+1)+1) % (m+1) < m+1:=Nat.mod_lt _ (Nat.succ_pos m)
 unfold GZ;split<;>lia
theorem tZ:(zT c m z).size=m+1:=by
 obtain ⟨t,e⟩:=tL c m z
 rw [e,au]
theorem Bi:∃ t,(zT c m z)[(0:Int).toNat]?=some (Value.int ((c 0:Int).fmod ((m+1:Nat):Int)) t):=by
 obtain ⟨t,e⟩:=tL c m z
 refine ⟨t 0,?_⟩
 rw [e,ur]
 exact aG (v:=λ i=>(Fj c m i:Int)) (Nat.succ_pos m)
theorem vL {F:List Addr}(L:ag K H h F ([a1,a2,a3,a4,a5,a6]++B) old):ag K H h F (([a1,a2,a3,a4,a5,a6]++[])++B) old:=L
section
universe u
variable {α:Type u}
noncomputable def H2 (f:Bool→Nat→Nat→Bool→α):((α×α)×(Nat→α×α))×((α×α)×(Nat→α×α)):=(N2 (f true 5),N2 (f false 4))
theorem hq {f g:Bool→Nat→Nat→Bool→α}(hm:b=true∧m=5∨b=false∧m=4) (r:Nat) (c:Bool) (h:H2 f=H2 g):f b m r c=g b m r c:=by
 rcases hm with ⟨rfl,rfl⟩|⟨rfl,rfl⟩
 ·exact nq r c (congrArg (·.1) h)
 ·exact nq r c (congrArg (·.2) h)
end
theorem ls {n:Nat}(hm:b=true∧m=5∨b=false∧m=4) (hsc:KP w P sc=some (ab (ah n sv st0) sn)) (hn:n≤100) (hn6:r=min n 6) (hb:decide ((n:Int) > 5)=b) (h92:al 61 19 o92) (h99:al 64 32 o99) (htx:fh o151 []) (R:RP) (L:ag (KP w P) hh hh [92,99,151] ([(92,o92),(99,o99),(151,o151)]++[]) [])
  (hR:∀ (P':KF) (h:Heap) (g:BG) (t':Nat) (o92 o99 o151:Obj) (cl:aq),al 61 19 o92→al 64 32 o99→fh o151 cl→ag (KP w P') hh h [92,99,151] ([(92,o92),(99,o99),(151,o151)]++cl) []→R (.ok (.ret (.bool true))) ⟨h,g,dr,t',os⟩):codeAny (model pg w) Ib (.call (.ref 159) ⟨[.ref sc],[]⟩) R ⟨hh,gg,dr,tt,os⟩:=by
 obtain ⟨N,hN⟩:=bd hh
 have hpf:=f9 hsc am
 have f1s:∀ (z:Nat→Nat) (x:Value),(#[x]:VA).size+((zT (cF sv r) m z).toList.drop (1:Int).toNat).toArray.size=m+1:=λ z x=>by
  have:=tZ (c:=(cF sv r)) (m:=m) (z:=z)
  have e2:((zT (cF sv r) m z).toList.drop (1:Int).toNat).toArray.size=(zT (cF sv r) m z).size - 1:=by simp
  rw [e2,this];show 1+(m+1 - 1)=_;lia
 have hm5:m≤5:=by lia
 have hm4:m=4∨m=5:=by lia
 have hm6:m+1 < r+6:=by
  rcases hm with ⟨rfl,rfl⟩|⟨rfl,rfl⟩
  ·have:=of_decide_eq_true hb
   lia
  ·lia
 obtain ⟨w,cc,rfl⟩:=cB w
 refine dv [y7 n,sK (n:Nat) 5 b,gK,c0 (uw _ P N r sv) rz,xS,c0 (tA _ P N (m+1) m (cF sv r)) sx,c0 (ue _ P N (r+6) m (cF sv r)) q9,Gp 0 ((cF sv r 0:Int).fmod ((m+1:Nat):Int)),rn] hpf ([.k,aj,aj,.e,.k,.k,aj,.c 0 [2000],.e,.c 1 [],ay,ay,aj,aL,aL,aL,.e,aL,.c 2 [2000,0],U,U,.e,U,.e,U,.c 3 [2,1,0,3]]++((match (generalizing:=false) r with|0=>[]|_=>[U,U])++[U,aj,U,aj,.e,aj,.c 4 [2,0],ow,ow,ow,mW,ay,ay,ay,.e,ay,.c 2 [1,0],U,U,.e,U,.e,U,.c 5 [2,1,0,13,3],ig,ig,U,U,U,ig,fv,fv,.e,fv,.e,U,.c 6 [2,1,0,16,8],ft,ft,U,U,U,ft,ft,aK,aK,aK,.e,aK,.c 7 [4],.e,.e,mf,.e,.c 8 [],qa,dR,dR,dR,.e,dR,.c 2 [6,0],aj,U,aj,.e,aj,.c 4 [2,0],U,U,.e,U,.e,U,.s])) L hN λ ps=>?_
 refine eC (kW [be N]) [23,0,21,24,25,26,22,10,2,7,1] 27 ((([]++ec nF (aw (ps 3).as r))++ec nF (aw (ps 6).as (m+1)))++ec nF (aw (ps 7).as (r+6))) (λ W=>⟨kR N ((ps 11).n+1),true,none,some [be N],[(N,aV W [en "script" tt (.ref sc),en "cells" (ps 4).t (.ref ((ps 4).as 0)),en "first" (ps 6).t (.ref ((ps 5).n+1)),en "looks" (ps 7).t (.ref ((ps 6).n+1))] 4 #[]),((ps (nat_lit 11)).3+1,dS (.type "tuple_iterator") #[.ref ((ps 11).3),.int 0 0]),(N+2,cZ),(92,o92),(99,o99),(151,o151),(N+1,ak (.int ((m+1:Nat):Int) ((ps 1).t))),((ps (nat_lit 5)).3+1,ab (zT (cF sv r) m (ps 6).as) ((ps 6).as 0)),((ps (nat_lit 11)).6 (nat_lit 0),ab (G7 (cF sv r) m (ps 6).as ((ps 9).as 0)) 0),((ps (nat_lit 6)).3+1,ab (Id (cF sv r) m (r+6) (ps 7).as) ((ps 7).as 0)),((ps (nat_lit 11)).3,aU #[.ref ((ps 5).3+1),.ref ((ps 11).6 0)] 0)],[(#[Value.int (((cF sv r 0:Int).fmod ((m+1:Nat):Int)+1).fmod ((m+1:Nat):Int)) ((ps 9).as 0)]:VA).size+((zT (cF sv r) m (ps 6).as).toList.drop (1:Int).toNat).toArray.size≤1000,(zT (cF sv r) m (ps 6).as).size≤1000∧(0:Int)≤1,((m+1:Nat):Int)≠0,(0:Int)≤0∧(0:Int) < 2 ^ 63,∃ t,(zT (cF sv r) m (ps 6).as)[(0:Int).toNat]?=some (Value.int ((cF sv r 0:Int).fmod ((m+1:Nat):Int)) t),∃ t,(CK sv r (ps 3).as ((ps 3).t))=ah (r+6) (λ i=>(cF sv r i:Int)) t,r+6≤20,∀ i,cF sv r i < 10 ^ 9,∃ t,((CK sv r (ps 3).as ((ps 3).t)).toList.take ((m+1:Nat):Int).toNat).toArray=ah (m+1) (λ i=>(cF sv r i:Int)) t,m+1≤20,∀ i,cF sv r i < 10 ^ 9,(CK sv r (ps 3).as ((ps 3).t)).size≤1000∧(0:Int)≤(m+1:Nat),(cn (ca λ i q=>Value.int ((sv i).fmod 1000000000) q.1) (aw (ps 3).as r)).size+(HY ((ps 3).t)).size≤1000,∃ t,((ah n sv st0).toList.take (6:Int).toNat).toArray=ah r sv t,r≤20,(ah n sv st0).size≤1000∧(0:Int)≤6,decide ((n:Int) > 5)=b,(ah n sv st0).size≤1000,(ah n sv st0).size=n]⟩) rfl (by apply hq hm r cc;kernel_rfl) (by decide) (dH 3 3 rfl) rfl rfl rfl rfl ?_ λ h g t2 L' _ md=>?_
 ·exact aa (by rw [f1s];lia) (aa (⟨by rw [tZ];lia,by lia⟩) (aa (by lia) (aa (⟨by lia,by lia⟩) (aa (Bi) (aa (Dj _ _ _ _) (aa (by lia) (aa (uu _ _) (aa (Bb _ _ _ _ _ (by lia)) (aa (by lia) (aa (uu _ _) (aa (⟨by rw [s7];lia,by lia⟩) (aa (by rw [tF,n7];show _+6≤1000;lia) (aa (Fz hn6) (aa (by lia) (aa (⟨by rw [au];lia,by lia⟩) (aa (hb) (aa (by rw [au];lia) (aa (au) (ae)))))))))))))))))))
 simp only [bR,aX] at L'
 obtain ⟨t1,q1⟩:=tL (cF sv r) m (ps 6).as
 obtain ⟨t2',q2⟩:=GF (cF sv r) m (ps 6).as ((ps 9).as 0)
 obtain ⟨t3,q3⟩:=Go (cF sv r) m (r+6) (ps 7).as
 rw [q1,q2,q3] at L'
 have L2:=vL L'
 obtain ⟨L3,hS,nS⟩:=L2.stay (dH 3 3 rfl)
 have k1:=cy nS hS bU
 have k2:=cy nS hS fG
 have k3:=cy nS hS jX
 have k4:=cy nS hS Ae
 have k5:=cy nS hS (.head _)
 refine Br (Dl hm4 k1 k3 hm6 (λ k=>F8) (uu _ _)) (Dl hm4 k2 k3 hm6 (λ k=>GM) (uu _ _)) k5 k4 h92 h99 htx _ L3 λ P2 h g t3 x0 o92 o99 o151 cl q92 q99 qtx L4=>?_
 obtain ⟨M2,hM2⟩:=bd h
 refine ma R [] am hM2 [] L4 md λ ps2=>?_
 refine ba [1,2,3] 4 cl (λ W=>⟨.ok (.ret (.bool true)),[(92,o92),(99,o99),(151,o151)],[]⟩) rfl (by apply hq hm r cc;kernel_rfl) (by decide) (dH 0 3 rfl) ae λ h' g' t4 L8=>?_
 exact hR P2 h' g' t4 _ _ _ cl q92 q99 qtx L8
end
theorem Gf {n:Nat}(hsc:KP w P sc=some (ab (ah n sv st0) sn)) (hn:n≤100) (h92:al 61 19 o92) (h99:al 64 32 o99) (htx:fh o151 []) (R:RP) (L:ag (KP w P) hh hh [92,99,151] ([(92,o92),(99,o99),(151,o151)]++[]) [])
  (hR:∀ (P':KF) (h:Heap) (g:BG) (t':Nat) (o92 o99 o151:Obj) (cl:aq),al 61 19 o92→al 64 32 o99→fh o151 cl→ag (KP w P') hh h [92,99,151] ([(92,o92),(99,o99),(151,o151)]++cl) []→R (.ok (.ret (.bool true))) ⟨h,g,dr,t',os⟩):codeAny (model pg w) Ib (.call (.ref 159) ⟨[.ref sc],[]⟩) R ⟨hh,gg,dr,tt,os⟩:=by
 by_cases h5:n > 5
 ·exact ls (.inl ⟨rfl,rfl⟩) hsc hn rfl (decide_eq_true (by lia)) h92 h99 htx R L hR
 ·have hb:decide ((n:Int) > 5)=false:=decide_eq_false (by lia)
  exact ls (.inr ⟨rfl,rfl⟩) hsc hn rfl hb h92 h99 htx R L hR
noncomputable def ww:KT→Nat→Nat→List (Nat×Obj)
 |.nil,_,_=>[]
 |.node v l r,s,b=>(match v with|some o=>[(b,o)]|none=>[])++(ww l (2 * s) (s+b)++ww r (2 * s) (2 * s+b))
theorem jk:∀ (t:KT) (s b:Nat),(∀ p∈ww t s b,h.get? p.1=some p.2)→KT.Holds h s b t
 |.nil,_,_,_=>trivial
 |.node v l r,s,b,x=>⟨λ o e=>by subst e;exact x (b,o) (aI _ (.head _)),jk l _ _ λ p hp=>x p (bu _ (aI _ hp)),jk r _ _ λ p hp=>x p (bu _ (bu _ hp))⟩
theorem k0_of {K:Frag}(X:K.In h) (e:(ww (Fm w.params) 1 0).map (λ p=>K.lookup p.1)=(ww (Fm w.params) 1 0).map λ p=>some p.2):(K0 w).In h:=by
 have H:KT.Holds h 1 0 (Fm w.params):=jk _ _ _ λ p hp=>by
  refine X p.1 p.2 ?_
  obtain ⟨i,hi,rfl⟩:=List.mem_iff_getElem.mp hp
  have:=congrArg (λ l=>l[i]?) e
  simpa [hi] using this
 intro a o e2
 have:=KT.Holds.get H e2
 rw [Nat.one_mul,Nat.add_zero] at this
 exact this
theorem we (h:IntsAre vs ns):∃ t,vs.toArray=ah ns.length (λ i=>ns.getD i 0) t:=by
 obtain ⟨t,e⟩:=iA h
 exact ⟨t,by rw [e];rfl⟩
theorem pC {a b:Int}{o:Obj}(h:al a b o):∃ more:VA,o={ (dk #[]:Obj) with data:=.fields (#[]++more) }:=by
 rcases h with rfl|⟨ac,rfl⟩
 ·exact ⟨#[],rfl⟩
 ·exact ⟨_,by rw [Array.empty_append]⟩
theorem vF {o:Obj}(h:fh o cl):∃ more:VA,o={ (dk #[]:Obj) with data:=.fields (#[]++more) }:=by
 rcases h with ⟨rfl,_⟩|⟨ac,co,_,_,rfl⟩
 ·exact ⟨#[],rfl⟩
 ·exact ⟨_,by rw [Array.empty_append]⟩
theorem close {s₁:Shared}{c:ClaimW}{cl:Str→Option Addr}{mean:ExcName→Option Value}{args:List WData}(hK:(K0 w).In s₁.heap) (h92:s₁.heap.get? 92=some (dk #[])) (h99:s₁.heap.get? 99=some (dk #[])) (h151:s₁.heap.get? 151=some (dk #[]))
  (hl:s₁.heap.get? 160=some (ab vs.toArray 0)) (hi:IntsAre vs ns) (hlen:¬ (63:Int) < ns.length) (hg:s₁.gens=#[]) (hr:∀ cls,c.raises args cls=false) (hp:c.post args (.bool true) args=true):
  wpAny (model pg w) callerA (call (.ref 159) [.ref 160]) (λ v s'=>GoodWG c cl mean args s₁ (.ok (.ret v)) s') (λ e s'=>GoodWG c cl mean args s₁ (.error e) s') s₁:=by
 refine enter_call ?_
 obtain ⟨t,et⟩:=we hi
 obtain ⟨hh,gg,dr,tt,os⟩:=s₁
 have hg:gg=#[]:=hg
 subst hg
 rw [et] at hl
 refine aM (A₀:=Ib) ⟨rfl,by decide,.inr rfl,.inl rfl,by decide⟩ ?_
 have L0:ag (KP w λ _=>none) hh hh [92,99,151] [(92,dk #[]),(99,dk #[]),(151,dk #[])] [(160,ab (ah ns.length (λ i=>ns.getD i 0) t) 0)]:=by
  refine ag.start (own:=[(92,dk #[]),(99,dk #[]),(151,dk #[])]) (old:=[(160,ab (ah ns.length (λ i=>ns.getD i 0) t) 0)]) (λ a o e=>?_) (λ p hp=>?_) (by simp) λ p hp=>?_
  ·refine hK a o ?_
   rcases eO e with e|⟨_,e⟩
   ·exact e
   ·cases e
  ·simp only [List.cons_append,List.nil_append,bI,List.not_mem_nil,or_false] at hp
   rcases hp with rfl|rfl|rfl|rfl<;>assumption
  ·simp only [List.cons_append,List.nil_append,bI,List.not_mem_nil,or_false] at hp
   rcases hp with rfl|rfl|rfl|rfl<;>kernel_rfl
 have L1:=ag.intoP (P:=λ _=>none) (S:=[(160,ab (ah ns.length (λ i=>ns.getD i 0) t) 0)]) (old:=[]) L0
 have hsc:KP w (bN (λ _=>none) [(160,ab (ah ns.length (λ i=>ns.getD i 0) t) 0)]) 160=some (ab (ah ns.length (λ i=>ns.getD i 0) t) 0):=by kernel_rfl
 refine Gf hsc (by lia) (.inl rfl) (.inl rfl) (.inl ⟨rfl,rfl⟩) (gg:=BG.nil) _ L1 λ P' h g t' o92 o99 o151 cl q92 q99 qtx L2=>?_
 obtain ⟨m1,e1⟩:=pC q92
 obtain ⟨m2,e2⟩:=pC q99
 obtain ⟨m3,e3⟩:=vF qtx
 have g1:=(L2.hown (92,o92) (.head _)).1
 have g2:=(L2.hown (99,o99) bU).1
 have g3:=(L2.hown (151,o151) fG).1
 refine ⟨.inl ⟨_,_,[],rfl,hr,ReadsW.bool true,hp,λ _=>⟨List.nodup_nil,λ _ hm=>(nomatch hm)⟩⟩,⟨λ b o e=>?_,λ b o e=>?_⟩,rfl,g.2⟩
 ·by_cases hb:b∈([92,99,151]:List Addr)
  ·simp only [bI,List.not_mem_nil,or_false] at hb
   rcases hb with rfl|rfl|rfl
   ·rw [h92] at e;cases e
    exact .inr (.inl ⟨⟨96,_,_,hK 96 (Gb w.params) rfl,rfl,rfl,rfl⟩,rfl,#[],m1,rfl,by rw [←e1];exact g1⟩)
   ·rw [h99] at e;cases e
    exact .inr (.inl ⟨⟨103,_,_,hK 103 (Dd w.params) rfl,rfl,rfl,rfl⟩,rfl,#[],m2,rfl,by rw [←e2];exact g2⟩)
   ·rw [h151] at e;cases e
    exact .inr (.inl ⟨⟨153,_,_,hK 153 (CV w.params) rfl,rfl,rfl,rfl⟩,rfl,#[],m3,rfl,by rw [←e3];exact g3⟩)
  ·exact .inl (L2.keep b o hb e)
 ·exact L2.alive e
section
noncomputable def fP:Stmt→Pos
 |.FunctionDef _ _ _ _ _ _ _ _ _ p=>p
 |_=>default
noncomputable def qv:Program:={ pg with main:={ pg.main with body:=[st 1,st 2,st 3,st 4,st 7,st 8,st 10,st 11,st 12,st 13,st 14] } }
noncomputable def kf (P:Params):Frag:=ww (Fm P) 1 0++[(92,dk #[]),(99,dk #[]),(151,dk #[])]
noncomputable def Iv:List Addr:=[0,1,3,7,15,31,63,127,95,159,47,79,143,111,23,39,71,135,103,87,119,11,19,35,67,131,51,83,147,115,27,43,75,139,107,59,91,155,123,5,9,17,33,65,129,97,49,81,145,113,25,41,73,137,105,89,153,121,13,21,37,69,101,85,149,117,29,45,77,141,109,61,93,157,125,2,4,8,16,32,64,128,96,48,80,144,112,24,40,72,136,104,88,152,120,12,20,36,68,132,100,84,148,116,28,44,76,140,108,60,156,124,6,10,18,34,66,130,98,50,82,146,114,26,42,74,138,106,90,154,122,14,22,38,70,102,54,86,150,118,30,46,78,142,110,62,94,158,126,92,99,151]
theorem Gt (P:Params):Iv=(kf P).map (·.1):=by kernel_rfl
noncomputable abbrev Iw:RowW:=PySem.Challenge.rw_pk0052_01.row.toRowW
theorem w1:PySem.Challenge.rw_pk0052_01.wellSaid=true:=by
 rw [PySem.W.Fast.te9446332074065402090]
 kernel_rfl
theorem lf:LeftO Iw.prog qv ["length_hint","_Accumulator"] (λ s=>xlAt qv [] s&&recOk (RowW.records Iw) s) (obsZ Iv) (valZ kf 160 364) 1774:=by
 intro w
 unfold openEnds fencedOpening topFrom
 rw [PySem.W.Fast.te10274390034422433532,PySem.W.Fast.te14289696077712309145,PySem.W.Fast.te14082659384304107361,PySem.W.Fast.te4187177175401517315]
 kernel_rfl
theorem top0:PySem.Challenge.rw_pk0052_01.Holds:=by
 w_on
 refine holds_law w1 λ said=>?_
 refine holds_openX (q:=qv) (XP:=XL qv []) (d:=⟨"law",fA (st 14),fB (st 14),fS (st 14),fP (st 14)⟩) (kwd:=[]) lf (λ s e=>xl_of s (Bool.and_eq_true_iff.mp e).1) XL.keeps (by kernel_rfl) (by kernel_rfl) (by kernel_rfl) (λ s e=>recFacts_of (Bool.and_eq_true_iff.mp e).2) (by rfl) said (by decide+kernel) ⟨rfl,rfl,rfl,rfl,rfl,by decide+kernel⟩ ?hw ?hc
 case hw=>w_witness2
 intro w s₀ s₁ mg mb G y fa o pm cd doc dV kV ho hd hcd hD hmg hg args vals as L hpre hlay hrd hwl hlo
 obtain ⟨ZA,ZI,ZN,ZT⟩:=z_facts Gt y
 have KX:(kf w.params).In s₁.heap:=InK.keeps w _ _ ZI (Laid.keeps L)
 refine Ground.open G ?_
 intro T B D TE TW
 wrow_args hpre hlay hrd hwl hlo
 obtain ⟨hat,hsz⟩:=script_at L
 have htk:=script_toks L ZT
 rw [ZN] at hat hsz
 subst hat
 x_fa T KX hmg
 all_lens
 rename_i hL1 w1 r0 hi1 hb1
 have hl2:=script_obj L hL1
 exact Mine.close (Mine.k0_of KX (by kernel_rfl)) (KX 92 _ (by kernel_rfl)) (KX 99 _ (by kernel_rfl)) (KX 151 _ (by kernel_rfl)) hl2 hi1 (by assumption) hg (λ _=>rfl) (by first|rfl|wrow_post)
end
end
end
end Mine
theorem PySem.Challenge.cw_pk0052_01_holds : PySem.Challenge.rw_pk0052_01.Holds :=
  Mine.top0
