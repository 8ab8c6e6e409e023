import PyProof.Rows.All
import Wide.All
import OpenK.AllK
import Wide.FinOn
import KE.KNestM
import KE.LcTurns
import KE.KLam
import PyProof.EqKinds
import PyProof.NeKinds
import PyProof.Rows.EqBoolInt
import PyProof.Rows.EqNone
import KE.KLcTest
import KE.KRevSl
import KE.KStopIter
import PyProof.Rows.FactsExc_ValueError
import PyProof.Rows.FactsExc_KeyError
import PyProof.Rows.FactsExc_IndexError
import PyProof.Rows.FactsExc_AssertionError
import PyProof.Rows.FactsExc_TypeError
import KE.KCells
import PySem.Challenge.RW_km0029_05
set_option genInjectivity false
set_option genSizeOf false
set_option tactic.hygienic false
set_option maxRecDepth 100000
set_option linter.unusedVariables false
set_option linter.defProp false
noncomputable def za:=@Bool.casesOn
noncomputable def zd:=@List.length_append
noncomputable def ze:=@Option.some.inj
noncomputable def zg:=@Exists.elim
noncomputable def zh:=@Option.casesOn
noncomputable def zi:=@List.mem_append_right
noncomputable def zj:=@PySem.wpAny_bind
noncomputable def zk:=@List.mem_append_left
noncomputable def zl:=@List.append_assoc
noncomputable def zn:=@List.getElem?_eq_some_iff
noncomputable def zo:=@List.casesOn
noncomputable def zp:=@Nat.le_trans
noncomputable def zr:=@List.mem_cons_of_mem
noncomputable def zt:=@List.mem_append
noncomputable def zu:=@Nat.le_refl
noncomputable def zw:=@Nat.eq_of_beq_eq_true
noncomputable def zy:=@congrArg
noncomputable def zz:=@Nat.casesOn
noncomputable def zA:=@List.mem_map
noncomputable def zB:=@Nat.le_add_right
noncomputable def zC:=@Nat.le_of_ble_eq_true
noncomputable def zD:=@Nat.ble_eq_true_of_le
noncomputable def zE:=@List.append_nil
noncomputable def zF:=@PySem.wpAny_pure
noncomputable def zG:=@List.mem_singleton
noncomputable def zH:=@Bool.and_eq_true_iff
noncomputable def zI:=@List.mem_cons
noncomputable def zJ:=@List.getElem?_append_left
noncomputable def zK:=@List.length_cons
noncomputable def zL:=@List.size_toArray
noncomputable def zM:=@List.getElem?_append_right
noncomputable def zN:=@PySem.isSubtype_type
noncomputable def zO:=@Nat.add_assoc
noncomputable def zP:=@Nat.le_succ
noncomputable def zQ:=@List.mem_of_getElem?
noncomputable def zR:=@if_neg
noncomputable def zS:=@Nat.lt_succ_self
noncomputable def zT:=@List.all_eq_true
noncomputable def zU:=@decide_eq_false
noncomputable def zV:=@List.lookup_cons
noncomputable def zW:=@PySem.wpAny_mono
noncomputable def zX:=@of_decide_eq_true
noncomputable def zY:=@Nat.zero_le
noncomputable def zZ:=@List.nodup_append
noncomputable def z3:=@Nat.succ_le_succ
noncomputable def z4:=@Nat.lt_of_lt_of_le
noncomputable def z5:=@if_pos
noncomputable def z6:=@PySem.Heap.get?_push_of_some
noncomputable def z7:=@Nat.le_succ_of_le
noncomputable def z8:=@List.getElem?_toArray
noncomputable def z9:=@List.mem_filter
noncomputable def ja:=@decide_eq_true
noncomputable def jb:=@List.length_map
noncomputable def jc:=@List.eq_nil_of_length_eq_zero
noncomputable def jd:=@beq_eq_false_iff_ne
noncomputable def je:=@Nat.add_le_add_left
noncomputable def jf:=@PyProof.Rows.args_cons
noncomputable def jg:=@List.nodup_cons
noncomputable def jh:=@List.map_append
noncomputable def ji:=@List.length_take
noncomputable def jk:=@List.contains_eq_mem
noncomputable def jl:=@Nat.sub_self
noncomputable def jm:=@Nat.lt_of_le_of_lt
noncomputable def jn:=@List.drop_of_length_le
noncomputable def jo:=@Int.natCast_nonneg
noncomputable def jp:=@Bool.false_ne_true
noncomputable def jq:=@List.getElem?_eq_getElem
noncomputable def jr:=@Nat.zero_add
noncomputable def js:=@List.getElem?_nil
noncomputable def jt:=@PySem.builtinLookup_eq_fast
noncomputable def ju:=@beq_self_eq_true
noncomputable def jv:=@List.getElem?_set_self
noncomputable def jw:=@PySem.wpAny_holding
noncomputable def jx:=@List.cons.inj
noncomputable def jy:=@Nat.not_lt_zero
noncomputable def jz:=@Nat.min_eq_left
noncomputable def jA:=@Nat.beq_refl
noncomputable def jB:=@Bool.false_eq_true
noncomputable def jC:=@List.length_drop
noncomputable def jD:=@PySem.Heap.lt_size
noncomputable def jE:=@cond_false
noncomputable def jF:=@Nat.lt_succ_of_lt
noncomputable def jG:=@Nat.lt_of_succ_lt_succ
noncomputable def jH:=@Nat.add_comm
noncomputable def jI:=@PyProof.Rows.args_nil
noncomputable def jJ:=@Nat.le_antisymm
noncomputable def jK:=@List.length_set
noncomputable def jL:=@Nat.succ_ne_zero
noncomputable def jM:=@Nat.add_right_comm
noncomputable def jN:=@Bool.and_eq_true
noncomputable def jO:=@Nat.succ_pos
noncomputable def jP:=@List.all_cons
noncomputable def jQ:=@List.getElem?_set_ne
noncomputable def jR:=@List.drop_append_of_le_length
noncomputable def jS:=@Nat.add_sub_cancel_left
noncomputable def jT:=@PySem.wpAny_of_eq
noncomputable def jU:=@List.take_of_length_le
noncomputable def jV:=@Int.casesOn
noncomputable def jW:=@PySem.typeLookup_type
noncomputable def jX:=@PyProof.Rows.Constant_none
noncomputable def jY:=@Or.casesOn
noncomputable def jZ:=@List.drop_zero
noncomputable def j0:=@List.drop_drop
noncomputable def j3:=@List.drop_eq_getElem_cons
noncomputable def j4:=@cond_true
noncomputable def j5:=@Nat.ne_of_lt
noncomputable def j6:=@Nat.lt_irrefl
noncomputable def j7:=@Int.negSucc_lt_zero
noncomputable def j8:=@PyProof.Rows.callWith_method1
noncomputable def j9:=@Nat.sub_le
noncomputable def Ja:=@PySem.Heap.get?_push_size
noncomputable def Jb:=@List.of_mem_zip
noncomputable def Jc:=@List.forIn_cons
noncomputable def Jd:=@Nat.lt_succ_of_le
noncomputable def Je:=@Nat.le_of_lt_succ
noncomputable def Jf:=@Array.getD_eq_getD_getElem?
noncomputable def Jg:=@PySem.wpAny_call
noncomputable def Jh:=@List.drop_left
noncomputable def Ji:=@PySem.wpAny_standAt
noncomputable def Jj:=@Nat.zero_min
noncomputable def Jk:=@Nat.lt_of_not_le
noncomputable def Jl:=@Nat.le_of_not_le
noncomputable def Jm:=@Nat.le_of_lt
noncomputable def Jn:=@Nat.le_of_eq
noncomputable def Jo:=@List.isEmpty_iff
noncomputable def Jp:=@Int.ofNat_lt
noncomputable def Jq:=@Decidable.byContradiction
noncomputable def Jr:=@Option.isSome_iff_exists
noncomputable def Js:=@List.nil_append
noncomputable def Jt:=@Nat.lt_add_of_pos_right
noncomputable def Ju:=@List.getElem?_map
noncomputable def Jv:=@List.drop_eq_nil_of_le
noncomputable def Jw:=@PySem.typeIs_str
noncomputable def Jx:=@Nat.add_le_of_le_sub'
noncomputable def Jy:=@List.getElem?_eq_none
noncomputable def Jz:=@Int.max_eq_right
noncomputable def JA:=@List.map_cons
noncomputable def JB:=@List.any_cons
noncomputable def JC:=@Bool.or_eq_false_iff
noncomputable def JD:=@PySem.entryFor_of_tree
noncomputable def JE:=@congrFun
noncomputable def JF:=@Int.not_lt
noncomputable def JG:=@Nat.le.dest
noncomputable def JH:=@Bool.not_eq_true'
noncomputable def JI:=@Nat.min_eq_right
noncomputable def JJ:=@List.getElem_inj
noncomputable def JK:=@Nat.add_zero
noncomputable def JL:=@Nat.le_add_left
noncomputable def JM:=@Bool.or_eq_true
noncomputable def JN:=@Nat.le_of_sub_eq_zero
noncomputable def JO:=@List.drop_take
noncomputable def JP:=@List.filterMap_cons
noncomputable def JQ:=@Array.toList_append
noncomputable def JR:=@bne_iff_ne
noncomputable def JS:=@Nat.le_of_not_lt
noncomputable def JT:=@List.cons_append
noncomputable def JU:=@PySem.signature?_of
section
open PySem PySem.W PySem.Calls PyProof.Rows
namespace Hd
noncomputable abbrev vt:String→Value:=Value.type
noncomputable abbrev vr:Nat→Value:=Value.ref
noncomputable abbrev vb:String→Value:=Value.builtin
noncomputable def de(P:Params)(x:Str)(t:Nat)(v:Value):DictEntry:=⟨PyData.keyHash P x,.str x t,v⟩
noncomputable def Aj:List Stmt→Nat→Stmt
 |[],_=>.Pass ⟨0,0,0,0⟩
 |x::_,0=>x
 |_::r,k+1=>Aj r k
noncomputable def pg:Program:=PySem.Challenge.pw_km0029_05
noncomputable def sT(i:Nat):Stmt:=Aj pg.main.body i
noncomputable def sC(i j:Nat):Stmt:=match sT i with | .ClassDef _ _ _ b _ _ _ _ _ _ _=>Aj b j |s=>s
noncomputable def fB:Stmt→List Stmt | .FunctionDef _ _ b _ _ _ _ _ _ _=>b |_=>[]
noncomputable def fA:Stmt→Arguments | .FunctionDef _ a _ _ _ _ _ _ _ _=>a |_=>⟨[],[],none,[],[],none,[]⟩
noncomputable def fS:Stmt→Scope | .FunctionDef _ _ _ _ _ _ s _ _ _=>s |_=>pg.main.scope
noncomputable def J1:Life:=(@PySem.Life.mk [] [] [] 0 [] [] Bool.false #[] [] 0 Bool.false Bool.false Bool.false 0 [2000,10,10] Bool.false 0 Bool.true [] [] 0 Bool.false)
noncomputable abbrev vn:=Value.none
noncomputable abbrev vT:=Value.bool true
noncomputable abbrev vF:=Value.bool false
noncomputable abbrev i0(a:Int):=Value.int a 0
noncomputable abbrev vi:=Value.int
noncomputable abbrev so(x:String):=Str.ofString x
noncomputable abbrev vs(x:String)(t:Nat):=Value.str (Str.ofString x) t
noncomputable abbrev vc:=vs "/claim/cut.py"
noncomputable abbrev vp:=vs "cpy313.idlelib.pyparse" 289
noncomputable abbrev vm:=vs "__main__" 164
noncomputable def is:List Int→List Value:=List.rec [] fun a _ r=>.int a 0::r
noncomputable def it(t:Nat)(l:List Int):List Value:=List.rec (fun _=>[]) (fun a _ r t=>.int a t::r t.succ) l t
noncomputable def st(t:Nat)(l:List String):List Value:=List.rec (fun _=>[]) (fun a _ r t=>vs a t::r t.succ) l t
noncomputable def dn(k:Nat)(a:Int)(t:Nat)(v:Int)(u:Nat):DictEntry:=⟨k,.int a t,.int v u⟩
noncomputable def dx(k:Nat):DictEntry:=⟨k,.int (.ofNat k) (Nat.add 553 (Nat.mul 2 k)),.int 120 552⟩
noncomputable def sq(c:String)(l:List Value):Obj:=⟨vt c,none,.seq l.toArray 0,#[]⟩
noncomputable def tu:=sq "tuple"
noncomputable def li:=sq "list"
noncomputable def fi(c:Value)(l:List Value):Obj:=⟨c,none,.fields l.toArray,#[]⟩
noncomputable def cd(n q:String)(t:Nat)(l a:Int)(r u:Nat):Obj:=fi (vt "code") [vs n t,vs q t.succ,vc t.succ.succ,i0 l,i0 a,i0 0,i0 0,i0 3,vr r,vT,i0 276,vr r.succ,vn,vr (Nat.add r 2),vr (Nat.add r 3),vr (Nat.add r 4),i0 (.ofNat u),i0 l,vc u.succ]
noncomputable def fn(c:Value)(n q:String)(s:Stmt)(k:Nat)(w v:Value):Obj:=⟨c,none,.func ⟨so n,so q,fA s,.stmts (fB s),fS s,k,[],vn,vn,vn,w,none,v,vn,0⟩,#[]⟩
noncomputable abbrev N:=BT.node
noncomputable abbrev Z:=BT.nil
noncomputable abbrev L(o:Obj):=BT.node o .nil .nil
noncomputable def o0(P:Params):Obj:=(Obj.mk (vt "dict") none (Data.dict #[de P "__name__" 1 (vs "builtins" 160),de P "__doc__" 2 (vb "builtins.__doc__:str#\x6fpaque"),de P "__package__" 3 (vb "builtins.__package__:str#\x6fpaque"),de P "__loader__" 4 (vb "builtins.__loader__:shared#\x6fpaque"),de P "__spec__" 5 (vb "builtins.__spec__#\x6fpaque"),de P "__build_class__" 6 (vb "__build_class__"),de P "__import__" 7 (vb "__import__"),de P "abs" 8 (vb "abs"),de P "all" 9 (vb "all"),de P "any" 10 (vb "any"),de P "ascii" 11 (vb "ascii"),de P "bin" 12 (vb "bin"),de P "breakpoint" 13 (vb "breakpoint"),de P "callable" 14 (vb "callable"),de P "chr" 15 (vb "chr"),de P "compile" 16 (vb "compile"),de P "delattr" 17 (vb "delattr"),de P "dir" 18 (vb "dir"),de P "divmod" 19 (vb "divmod"),de P "eval" 20 (vb "eval"),de P "exec" 21 (vb "exec"),de P "format" 22 (vb "format"),de P "getattr" 23 (vb "getattr"),de P "globals" 24 (vb "globals"),de P "hasattr" 25 (vb "hasattr"),de P "hash" 26 (vb "hash"),de P "hex" 27 (vb "hex"),de P "id" 28 (vb "id"),de P "input" 29 (vb "input"),de P "isinstance" 30 (vb "isinstance"),de P "issubclass" 31 (vb "issubclass"),de P "iter" 32 (vb "iter"),de P "aiter" 33 (vb "aiter"),de P "len" 34 (vb "len"),de P "locals" 35 (vb "locals"),de P "max" 36 (vb "max"),de P "min" 37 (vb "min"),de P "next" 38 (vb "next"),de P "anext" 39 (vb "anext"),de P "oct" 40 (vb "oct"),de P "ord" 41 (vb "ord"),de P "pow" 42 (vb "pow"),de P "print" 43 (vb "print"),de P "repr" 44 (vb "repr"),de P "round" 45 (vb "round"),de P "setattr" 46 (vb "setattr"),de P "sorted" 47 (vb "sorted"),de P "sum" 48 (vb "sum"),de P "vars" 49 (vb "vars"),de P "None" 50 vn,de P "Ellipsis" 51 PySem.Value.ellipsis,de P "NotImplemented" 52 PySem.Value.notImplemented,de P "False" 53 vF,de P "True" 54 vT,de P "bool" 55 (vt "bool"),de P "memoryview" 56 (vt "memoryview"),de P "bytearray" 57 (vt "bytearray"),de P "bytes" 58 (vt "bytes"),de P "classmethod" 59 (vt "classmethod"),de P "complex" 60 (vt "complex"),de P "dict" 61 (vt "dict"),de P "enumerate" 62 (vt "enumerate"),de P "filter" 63 (vt "filter"),de P "float" 64 (vt "float"),de P "frozenset" 65 (vt "frozenset"),de P "property" 66 (vt "property"),de P "int" 67 (vt "int"),de P "list" 68 (vt "list"),de P "map" 69 (vt "map"),de P "object" 70 (vt "object"),de P "range" 71 (vt "range"),de P "reversed" 72 (vt "reversed"),de P "set" 73 (vt "set"),de P "slice" 74 (vt "slice"),de P "staticmethod" 75 (vt "staticmethod"),de P "str" 76 (vt "str"),de P "super" 77 (vt "super"),de P "tuple" 78 (vt "tuple"),de P "type" 79 (vt "type"),de P "zip" 80 (vt "zip"),de P "__debug__" 81 vT,de P "BaseException" 82 (vt "BaseException"),de P "BaseExceptionGroup" 83 (vt "BaseExceptionGroup"),de P "Exception" 84 (vt "Exception"),de P "GeneratorExit" 85 (vt "GeneratorExit"),de P "KeyboardInterrupt" 86 (vt "KeyboardInterrupt"),de P "SystemExit" 87 (vt "SystemExit"),de P "ArithmeticError" 88 (vt "ArithmeticError"),de P "AssertionError" 89 (vt "AssertionError"),de P "AttributeError" 90 (vt "AttributeError"),de P "BufferError" 91 (vt "BufferError"),de P "EOFError" 92 (vt "EOFError"),de P "ImportError" 93 (vt "ImportError"),de P "LookupError" 94 (vt "LookupError"),de P "MemoryError" 95 (vt "MemoryError"),de P "NameError" 96 (vt "NameError"),de P "OSError" 97 (vt "OSError"),de P "ReferenceError" 98 (vt "ReferenceError"),de P "RuntimeError" 99 (vt "RuntimeError"),de P "StopAsyncIteration" 100 (vt "StopAsyncIteration"),de P "StopIteration" 101 (vt "StopIteration"),de P "SyntaxError" 102 (vt "SyntaxError"),de P "SystemError" 103 (vt "SystemError"),de P "TypeError" 104 (vt "TypeError"),de P "ValueError" 105 (vt "ValueError"),de P "Warning" 106 (vt "Warning"),de P "FloatingPointError" 107 (vt "FloatingPointError"),de P "OverflowError" 108 (vt "OverflowError"),de P "ZeroDivisionError" 109 (vt "ZeroDivisionError"),de P "BytesWarning" 110 (vt "BytesWarning"),de P "DeprecationWarning" 111 (vt "DeprecationWarning"),de P "EncodingWarning" 112 (vt "EncodingWarning"),de P "FutureWarning" 113 (vt "FutureWarning"),de P "ImportWarning" 114 (vt "ImportWarning"),de P "PendingDeprecationWarning" 115 (vt "PendingDeprecationWarning"),de P "ResourceWarning" 116 (vt "ResourceWarning"),de P "RuntimeWarning" 117 (vt "RuntimeWarning"),de P "SyntaxWarning" 118 (vt "SyntaxWarning"),de P "UnicodeWarning" 119 (vt "UnicodeWarning"),de P "UserWarning" 120 (vt "UserWarning"),de P "BlockingIOError" 121 (vt "BlockingIOError"),de P "ChildProcessError" 122 (vt "ChildProcessError"),de P "ConnectionError" 123 (vt "ConnectionError"),de P "FileExistsError" 124 (vt "FileExistsError"),de P "FileNotFoundError" 125 (vt "FileNotFoundError"),de P "InterruptedError" 126 (vt "InterruptedError"),de P "IsADirectoryError" 127 (vt "IsADirectoryError"),de P "NotADirectoryError" 128 (vt "NotADirectoryError"),de P "PermissionError" 129 (vt "PermissionError"),de P "ProcessLookupError" 130 (vt "ProcessLookupError"),de P "TimeoutError" 131 (vt "TimeoutError"),de P "IndentationError" 132 (vt "IndentationError"),de P "_IncompleteInputError" 133 (vt "_IncompleteInputError"),de P "IndexError" 134 (vt "IndexError"),de P "KeyError" 135 (vt "KeyError"),de P "ModuleNotFoundError" 136 (vt "ModuleNotFoundError"),de P "NotImplementedError" 137 (vt "NotImplementedError"),de P "PythonFinalizationError" 138 (vt "PythonFinalizationError"),de P "RecursionError" 139 (vt "RecursionError"),de P "UnboundLocalError" 140 (vt "UnboundLocalError"),de P "UnicodeError" 141 (vt "UnicodeError"),de P "BrokenPipeError" 142 (vt "BrokenPipeError"),de P "ConnectionAbortedError" 143 (vt "ConnectionAbortedError"),de P "ConnectionRefusedError" 144 (vt "ConnectionRefusedError"),de P "ConnectionResetError" 145 (vt "ConnectionResetError"),de P "TabError" 146 (vt "TabError"),de P "UnicodeDecodeError" 147 (vt "UnicodeDecodeError"),de P "UnicodeEncodeError" 148 (vt "UnicodeEncodeError"),de P "UnicodeTranslateError" 149 (vt "UnicodeTranslateError"),de P "ExceptionGroup" 150 (vt "ExceptionGroup"),de P "EnvironmentError" 151 (vt "OSError"),de P "IOError" 152 (vt "OSError"),de P "open" 153 (vb "open"),de P "quit" 154 (vb "builtins.quit#\x6fpaque"),de P "exit" 155 (vb "builtins.exit#\x6fpaque"),de P "copyright" 156 (vb "builtins.copyright#\x6fpaque"),de P "credits" 157 (vb "builtins.credits#\x6fpaque"),de P "license" 158 (vb "builtins.license#\x6fpaque"),de P "help" 159 (vb "builtins.help#\x6fpaque")] 159) #[])
noncomputable def o1(P:Params):Obj:=(Obj.mk (vt "dict") none (Data.dict #[de P "builtins" 162 (vr 4),de P "__main__" 163 (vr 5),de P "_sre" 244 (vr 12)] 3) #[])
noncomputable def o2(P:Params):Obj:=(Obj.mk vn none (Data.dict #[de P "\x69mport.loaded._sre" 183 vT,de P "class._frozen_importlib.BuiltinImporter" 185 (vr 14),de P "watched.\x69mport" 206 (vr 18),de P "class._frozen_importlib.ModuleSpec" 216 (vr 22),de P "sys.modules.booked-epoch" 245 (i0 3),de P "\x69mport.later-laid._sre" 270 vT,de P "watched.library" 272 (vr 27),de P "watched.library-objects" 0 (vs "\x0c" 0),de P "watched.library-deep._sre" 273 (vs "\x04\x00\x00\x0b\x04\x00\x00\x0b\x04\x00\x00\x03\x04\x00\x00\x0b\x08\x04dict\x02" 0)] 9) #[])
noncomputable def o3(P:Params):Obj:=(Obj.mk (vt "dict") none (Data.dict #[de P "__name__" 165 vm,de P "__doc__" 166 vn,de P "__package__" 167 vn,de P "__loader__" 168 (vb "__main__.__loader__#\x6fpaque"),de P "__spec__" 169 vn,de P "__annotations__" 170 (vr 6),de P "__builtins__" 171 (vr 4),de P "__file__" 173 (vc 172),de P "__cached__" 174 vn,de P "_sre" 275 (vr 12)] 10) #[])
noncomputable def o4:Obj:=(Obj.mk (vt "module") (some 0) .plain #[])
noncomputable def o5:Obj:=(Obj.mk (vt "module") (some 3) .plain #[])
noncomputable def o6:Obj:=(Obj.mk (vt "dict") none (Data.dict #[] 0) #[])
noncomputable def o7:Obj:=tu []
noncomputable def o8:Obj:=fi vn []
noncomputable def o9:Obj:=fi (vt "code") [(vs "<module>" 176),(vs "<module>" 177),(vc 178),(i0 1),(i0 0),(i0 0),(i0 0),(i0 0),(vr 7),vF,(i0 175),(vr 8),vn,vn,vn,vn,(i0 179),(i0 1),(vc 180)]
noncomputable def Gj:Obj:=(Obj.mk (vt "frame") none .plain #[(some (vr 9)),(some (vr 3)),(some (vr 3)),none,(some vm),none,(some (vr 0))])
noncomputable def Gk(P:Params):Obj:=(Obj.mk (vt "dict") none (Data.dict #[de P "__name__" 247 (vs "_sre" 246),de P "__doc__" 248 vn,de P "__package__" 250 (vs "" 249),de P "__loader__" 251 (vr 14),de P "__spec__" 252 (vr 26),de P "compile" 253 (vb "_sre.compile"),de P "template" 254 (vb "_sre.template"),de P "getcodesize" 255 (vb "_sre.getcodesize"),de P "ascii_iscased" 256 (vb "_sre.ascii_iscased"),de P "unicode_iscased" 257 (vb "_sre.unicode_iscased"),de P "ascii_tolower" 258 (vb "_sre.ascii_tolower"),de P "unicode_tolower" 259 (vb "_sre.unicode_tolower"),de P "MAGIC" 261 (vi 20230612 260),de P "CODESIZE" 263 (vi 4 262),de P "MAXREPEAT" 265 (vi 4294967295 264),de P "MAXGROUPS" 267 (vi 1073741823 266),de P "copyright" 269 (vs " SRE 2.2.2 Copyright (c) 1997-2002 by Secret Labs AB " 268)] 17) #[])
noncomputable def Dr:Obj:=(Obj.mk (vt "module") (some 11) .plain #[])
noncomputable def DZ(P:Params):Obj:=(Obj.mk (vt "dict") none (Data.dict #[de P "__module__" 189 (vs "_frozen_importlib" 186),de P "__firstlineno__" 190 (vi 971 187),de P "__doc__" 191 (vb "_frozen_importlib.BuiltinImporter.__doc__:str#\x6fpaque"),de P "_ORIGIN" 192 (vs "built-in" 188),de P "find_spec" 193 (vb "_frozen_importlib.BuiltinImporter.find_spec#\x6fpaque"),de P "create_module" 194 (vb "_frozen_importlib.BuiltinImporter.create_module#\x6fpaque"),de P "exec_module" 195 (vb "_frozen_importlib.BuiltinImporter.exec_module#\x6fpaque"),de P "get_code" 196 (vb "_frozen_importlib.BuiltinImporter.get_code#\x6fpaque"),de P "get_source" 197 (vb "_frozen_importlib.BuiltinImporter.get_source#\x6fpaque"),de P "is_package" 198 (vb "_frozen_importlib.BuiltinImporter.is_package#\x6fpaque"),de P "load_module" 199 (vb "_frozen_importlib.BuiltinImporter.load_module#\x6fpaque"),de P "__static_attributes__" 200 (vr 15),de P "__dict__" 202 (vr 16),de P "__weakref__" 204 (vr 17)] 14) #[])
noncomputable def CT:Obj:=(Obj.mk (vt "type") none (Data.cls (@PySem.ClassData.mk (so "BuiltinImporter") [(vt "object")] [(vr 14),(vt "object")] 13 (so "BuiltinImporter") Bool.true [] [] Bool.false none Bool.false)) #[])
noncomputable def D0:Obj:=fi (vt "getset_descriptor") [(vs "__dict__" 201),(vr 14),(vb "function.__dict__"),(vb "function.__dict__#set")]
noncomputable def De:Obj:=fi (vt "getset_descriptor") [(vs "__weakref__" 203),(vr 14),(vb "ExceptionGroup.__weakref__"),vn]
noncomputable def Df:Obj:=(Obj.mk vn none (Data.seq #[(i0 13),(vs "\x06½\n__module__\x06º\x11_frozen_importlib\x06¾\x0f__firstlineno__\x04»\x00ϋ\x06¿\x07__doc__\t4_frozen_importlib.BuiltinImporter.__doc__:str#\x6fpaque\x06À\x07_ORIGIN\x06¼\x08built-in\x06Á\tfind_spec\t2_frozen_importlib.BuiltinImporter.find_spec#\x6fpaque\x06Â\x0dcreate_module\t6_frozen_importlib.BuiltinImporter.create_module#\x6fpaque\x06Ã\x0bexec_module\t4_frozen_importlib.BuiltinImporter.exec_module#\x6fpaque\x06Ä\x08get_code\t1_frozen_importlib.BuiltinImporter.get_code#\x6fpaque\x06Å\nget_source\t3_frozen_importlib.BuiltinImporter.get_source#\x6fpaque\x06Æ\nis_package\t3_frozen_importlib.BuiltinImporter.is_package#\x6fpaque\x06Ç\x0bload_module\t4_frozen_importlib.BuiltinImporter.load_module#\x6fpaque\x06È\x15__static_attributes__\x04\x00\x00\x0f\x06Ê\x08__dict__\x04\x00\x00\x10\x06Ì\x0b__weakref__\x04\x00\x00\x11" 0),vT,vT,(vs "" 205),(i0 21),(vs "\x06ã\n__module__\x06Ù\x11_frozen_importlib\x06ä\x0f__firstlineno__\x04Ú\x00Ȳ\x06å\x07__doc__\t/_frozen_importlib.ModuleSpec.__doc__:str#\x6fpaque\x06æ\x08__init__\t,_frozen_importlib.ModuleSpec.__init__#\x6fpaque\x06ç\x08__repr__\t,_frozen_importlib.ModuleSpec.__repr__#\x6fpaque\x06è\x06__eq__\t*_frozen_importlib.ModuleSpec.__eq__#\x6fpaque\x06é\x06cached\t*_frozen_importlib.ModuleSpec.cached#\x6fpaque\x06ê\x06parent\t*_frozen_importlib.ModuleSpec.parent#\x6fpaque\x06ë\x0chas_location\t0_frozen_importlib.ModuleSpec.has_location#\x6fpaque\x06ì\x15__static_attributes__\x04\x00\x00\x17\x06î\x08__dict__\x04\x00\x00\x18\x06ð\x0b__weakref__\x04\x00\x00\x19\x06ñ\x08__hash__\x00" 0),vT,vT,(vs "" 242)] 1) #[])
noncomputable def CX:Obj:=li []
noncomputable def C9(P:Params):Obj:=(Obj.mk (vt "dict") none (Data.dict #[de P "name" 208 (vs "_sre" 207),de P "loader" 209 (vr 14),de P "origin" 210 (vs "built-in" 184),de P "loader_state" 211 vn,de P "submodule_search_locations" 212 vn,de P "_uninitialized_submodules" 213 (vr 19),de P "_set_fileattr" 214 vF,de P "_cached" 215 vn,de P "_initializing" 243 vF] 9) #[])
noncomputable def CU(P:Params):Obj:=(Obj.mk (vt "dict") none (Data.dict #[de P "__module__" 227 (vs "_frozen_importlib" 217),de P "__firstlineno__" 228 (vi 562 218),de P "__doc__" 229 (vb "_frozen_importlib.ModuleSpec.__doc__:str#\x6fpaque"),de P "__init__" 230 (vb "_frozen_importlib.ModuleSpec.__init__#\x6fpaque"),de P "__repr__" 231 (vb "_frozen_importlib.ModuleSpec.__repr__#\x6fpaque"),de P "__eq__" 232 (vb "_frozen_importlib.ModuleSpec.__eq__#\x6fpaque"),de P "cached" 233 (vb "_frozen_importlib.ModuleSpec.cached#\x6fpaque"),de P "parent" 234 (vb "_frozen_importlib.ModuleSpec.parent#\x6fpaque"),de P "has_location" 235 (vb "_frozen_importlib.ModuleSpec.has_location#\x6fpaque"),de P "__static_attributes__" 236 (vr 23),de P "__dict__" 238 (vr 24),de P "__weakref__" 240 (vr 25),de P "__hash__" 241 vn] 13) #[])
noncomputable def AW:Obj:=(Obj.mk (vt "type") none (Data.cls (@PySem.ClassData.mk (so "ModuleSpec") [(vt "object")] [(vr 22),(vt "object")] 21 (so "ModuleSpec") Bool.true [] [] Bool.false none Bool.false)) #[])
noncomputable def AX:Obj:=tu (st 219 ["_cached","_set_fileattr","_uninitialized_submodules","loader","loader_state","name","origin","submodule_search_locations"])
noncomputable def AQ:Obj:=fi (vt "getset_descriptor") [(vs "__dict__" 237),(vr 22),(vb "function.__dict__"),(vb "function.__dict__#set")]
noncomputable def WC:Obj:=fi (vt "getset_descriptor") [(vs "__weakref__" 239),(vr 22),(vb "ExceptionGroup.__weakref__"),vn]
noncomputable def WD:Obj:=(Obj.mk (vr 22) (some 20) .plain #[])
noncomputable def WE:Obj:=(Obj.mk vn none (Data.seq #[(i0 11),(Value.str (@PySem.Str.mk #[6,247,8,95,95,110,97,109,101,95,95,6,246,4,95,115,114,101,6,248,7,95,95,100,111,99,95,95,0,6,250,11,95,95,112,97,99,107,97,103,101,95,95,6,249,0,6,251,10,95,95,108,111,97,100,101,114,95,95,4,0,0,14,6,252,8,95,95,115,112,101,99,95,95,4,0,0,26,6,253,7,99,111,109,112,105,108,101,9,12,95,115,114,101,46,99,111,109,112,105,108,101,6,254,8,116,101,109,112,108,97,116,101,9,13,95,115,114,101,46,116,101,109,112,108,97,116,101,6,255,11,103,101,116,99,111,100,101,115,105,122,101,9,16,95,115,114,101,46,103,101,116,99,111,100,101,115,105,122,101,6,256,13,97,115,99,105,105,95,105,115,99,97,115,101,100,9,18,95,115,114,101,46,97,115,99,105,105,95,105,115,99,97,115,101,100,6,257,15,117,110,105,99,111,100,101,95,105,115,99,97,115,101,100,9,20,95,115,114,101,46,117,110,105,99,111,100,101,95,105,115,99,97,115,101,100,6,258,13,97,115,99,105,105,95,116,111,108,111,119,101,114,9,18,95,115,114,101,46,97,115,99,105,105,95,116,111,108,111,119,101,114,6,259,15,117,110,105,99,111,100,101,95,116,111,108,111,119,101,114,9,20,95,115,114,101,46,117,110,105,99,111,100,101,95,116,111,108,111,119,101,114,6,261,5,77,65,71,73,67,4,260,0,20230612,6,263,8,67,79,68,69,83,73,90,69,4,262,0,4,6,265,9,77,65,88,82,69,80,69,65,84,4,264,0,4294967295,6,267,9,77,65,88,71,82,79,85,80,83,4,266,0,1073741823,6,269,9,99,111,112,121,114,105,103,104,116,6,268,53,32,83,82,69,32,50,46,50,46,50,32,67,111,112,121,114,105,103,104,116,32,40,99,41,32,49,57,57,55,45,50,48,48,50,32,98,121,32,83,101,99,114,101,116,32,76,97,98,115,32,65,66,32]) 0),vT,vF,(vs "_sre" 271)] 0) #[])
noncomputable def YC(P:Params):Obj:=(Obj.mk (vt "dict") none (Data.dict #[de P "__name__" 247 (vs "_sre" 246),de P "__doc__" 248 vn,de P "__package__" 250 (vs "" 249),de P "__loader__" 251 (vb "off-the-table:_sre.__loader__:shared#\x6fpaque"),de P "__spec__" 252 (vb "off-the-table:_sre.__spec__:shared#\x6fpaque"),de P "compile" 253 (vb "_sre.compile"),de P "template" 254 (vb "off-the-table:_sre.template:shared#\x6fpaque"),de P "getcodesize" 255 (vb "off-the-table:_sre.getcodesize:shared#\x6fpaque"),de P "ascii_iscased" 256 (vb "off-the-table:_sre.ascii_iscased:shared#\x6fpaque"),de P "unicode_iscased" 257 (vb "off-the-table:_sre.unicode_iscased:shared#\x6fpaque"),de P "ascii_tolower" 258 (vb "off-the-table:_sre.ascii_tolower:shared#\x6fpaque"),de P "unicode_tolower" 259 (vb "off-the-table:_sre.unicode_tolower:shared#\x6fpaque"),de P "MAGIC" 261 (vi 20230612 260),de P "CODESIZE" 263 (vi 4 262),de P "MAXREPEAT" 265 (vi 4294967295 264),de P "MAXGROUPS" 267 (vi 1073741823 266),de P "copyright" 269 (vs " SRE 2.2.2 Copyright (c) 1997-2002 by Secret Labs AB " 268)] 17) #[])
noncomputable def ai:Obj:=fi (vt "code") [(vs "<module>" 277),(vs "<module>" 278),(vc 279),(i0 1),(i0 0),(i0 0),(i0 0),(i0 0),(vr 28),vF,(i0 276),(vr 29),vn,vn,vn,vn,(i0 280),(i0 1),(vc 281)]
noncomputable def aj:Obj:=(Obj.mk (vt "frame") none .plain #[(some (vr 30)),(some (vr 3)),(some (vr 3)),none,(some vm),none,(some (vr 0))])
noncomputable def mK(P:Params):Obj:=(Obj.mk (vt "dict") none (Data.dict #[de P "__name__" 165 vp,de P "__doc__" 166 vn,de P "__package__" 167 vn,de P "__loader__" 168 (vb "__main__.__loader__#\x6fpaque"),de P "__spec__" 169 vn,de P "__annotations__" 170 (vr 6),de P "__builtins__" 171 (vr 4),de P "__file__" 173 (vc 172),de P "__cached__" 174 vn,de P "_sre" 275 (vr 12),de P "_wall" 288 (vr 38),de P "_twin_re_1" 504 (vr 43),de P "C_NONE" 513 (vi 0 508),de P "C_BACKSLASH" 514 (vi 1 509),de P "C_STRING_FIRST_LINE" 515 (vi 2 510),de P "C_STRING_NEXT_LINES" 516 (vi 3 511),de P "C_BRACKET" 517 (vi 4 512),de P "_synchre" 519 (vr 48),de P "ParseMap" 547 (vr 65)] 19) #[])
noncomputable def kX:Obj:=fi vn [(i0 2),(i0 0),(vr 37),(i0 9),(i0 0),(vr 54)]
noncomputable def dw:Obj:=tu [(vs "k" 285)]
noncomputable def fU:Obj:=fn vn "_wall" "_wall" (sT 1) 0 vn vn
noncomputable def dy:Obj:=cd "_wall" "_wall" 282 2 1 32 286
noncomputable def dz:Obj:=fn (vt "function") "_wall" "_wall" (sT 1) 3 vm (vr 37)
noncomputable def fV:Obj:=li (it 294 [14,4,0,3,4294967295,6,1,24,11,0,4294967295,13,6,16,32,16,9,0,1,7,13,16,119,16,104,16,105,16,108,16,101,15,173,11,16,101,16,108,16,115,16,101,15,162,9,16,100,16,101,16,102,15,153,15,16,114,16,101,16,116,16,117,16,114,16,110,15,138,15,16,97,16,115,16,115,16,101,16,114,16,116,15,123,13,16,98,16,114,16,101,16,97,16,107,15,110,13,16,99,16,108,16,97,16,115,16,115,15,97,19,16,99,16,111,16,110,16,116,16,105,16,110,16,117,16,101,15,78,11,16,101,16,108,16,105,16,102,15,67,9,16,116,16,114,16,121,15,58,15,16,101,16,120,16,99,16,101,16,112,16,116,15,43,13,16,114,16,97,16,105,16,115,16,101,15,30,15,16,105,16,109,16,112,16,111,16,114,16,116,15,15,13,16,121,16,105,16,101,16,108,16,100,15,2,0,6,10,1])
noncomputable def fW:Obj:=tu [vn]
noncomputable def dA:Obj:=tu (is [14,4,0,3,4294967295,6,1,24,11,0,4294967295,13,6,16,32,16,9,0,1,7,13,16,119,16,104,16,105,16,108,16,101,15,173,11,16,101,16,108,16,115,16,101,15,162,9,16,100,16,101,16,102,15,153,15,16,114,16,101,16,116,16,117,16,114,16,110,15,138,15,16,97,16,115,16,115,16,101,16,114,16,116,15,123,13,16,98,16,114,16,101,16,97,16,107,15,110,13,16,99,16,108,16,97,16,115,16,115,15,97,19,16,99,16,111,16,110,16,116,16,105,16,110,16,117,16,101,15,78,11,16,101,16,108,16,105,16,102,15,67,9,16,116,16,114,16,121,15,58,15,16,101,16,120,16,99,16,101,16,112,16,116,15,43,13,16,114,16,97,16,105,16,115,16,101,15,30,15,16,105,16,109,16,112,16,111,16,114,16,116,15,15,13,16,121,16,105,16,101,16,108,16,100,15,2,0,6,10,1])
noncomputable def dB:Obj:=fi (vt "re.Pattern") [(vs "\n    ^\n    [ \\t]*\n    (?: while\n    |   else\n    |   def\n    |   return\n    |   assert\n    |   break\n    |   class\n    |   continue\n    |   elif\n    |   try\n    |   except\n    |   raise\n    |   \x69mport\n    |   yield\n    )\n    \\b\n" 292),(vi 104 503),(i0 0),vn,vn,(vr 42),(i0 0)]
noncomputable def fX:Obj:=fi (vt "range") [(vi 0 506),(vi 5 505),(vi 1 507)]
noncomputable def fY:Obj:=fi (vt "range_iterator") (is [5,0,1])
noncomputable def fZ:Obj:=fi (vt "StopIteration") [(vr 46),vn,vn,vn,vF,vn]
noncomputable def dC:Obj:=fi (vt "builtin_function_or_method") [(vb "re.Pattern.search"),(vr 43)]
noncomputable def dD:Obj:=tu [(vt "dict")]
noncomputable def dE:Obj:=fi (vt "builtin_function_or_method") [(vb "type.__prepare__"),(vt "type")]
noncomputable def f6(P:Params):Obj:=(Obj.mk (vt "dict") none (Data.dict #[de P "__module__" 527 vp,de P "__qualname__" 529 (vs "ParseMap" 528),de P "__firstlineno__" 531 (vi 9 530),de P "__missing__" 539 (vr 62),de P "__static_attributes__" 540 (vr 63)] 5) #[])
noncomputable def f7:Obj:=fi vn [(i0 11),(i0 4),(vr 61)]
noncomputable def f8:Obj:=fi (vt "code") [(vs "ParseMap" 522),(vs "ParseMap" 523),(vc 524),(i0 9),(i0 0),(i0 0),(i0 0),(i0 0),(vr 52),vF,(i0 276),(vr 53),vn,vn,vn,vn,(i0 525),(i0 9),(vc 526)]
noncomputable def f9:Obj:=(Obj.mk (vt "frame") none .plain #[(some (vr 54)),(some (vr 3)),(some (vr 51)),none,(some vp),none,(some (vr 0))])
noncomputable def dF:Obj:=tu (st 535 ["self","key"])
noncomputable def gc:Obj:=fn vn "__missing__" "ParseMap.__missing__" (sC 6 0) 0 vn vn
noncomputable def dG:Obj:=cd "__missing__" "ParseMap.__missing__" 532 11 2 56 537
noncomputable def dH:Obj:=fn (vt "function") "__missing__" "ParseMap.__missing__" (sC 6 0) 3 vp (vr 61)
noncomputable def dI(P:Params):Obj:=(Obj.mk (vt "dict") none (Data.dict #[de P "__module__" 527 vp,de P "__firstlineno__" 531 (vi 9 530),de P "__missing__" 539 (vr 62),de P "__static_attributes__" 540 (vr 63),de P "__dict__" 542 (vr 66),de P "__weakref__" 544 (vr 67),de P "__doc__" 545 vn] 4) #[])
noncomputable def dJ:Obj:=(Obj.mk (vt "type") none (Data.cls (@PySem.ClassData.mk (so "ParseMap") [(vt "dict")] [(vr 65),(vt "dict"),(vt "object")] 64 (so "ParseMap") Bool.true [] [] Bool.false none Bool.false)) #[(some (vr 49)),none,(some (vs "ParseMap" 520)),(some (vs "ParseMap" 528)),(some (vb "dict.__new__")),(some vT)])
noncomputable def dK:Obj:=fi (vt "getset_descriptor") [(vs "__dict__" 541),(vr 65),(vb "function.__dict__"),(vb "function.__dict__#set")]
noncomputable def dM:Obj:=fi (vt "getset_descriptor") [(vs "__weakref__" 543),(vr 65),(vb "ExceptionGroup.__weakref__"),vn]
noncomputable def gh:Obj:=fi (vt "super") [(vr 65),(vr 65),(vr 65)]
noncomputable def gj:Obj:=fi (vt "builtin_function_or_method") [(vb "object.__init_subclass__"),(vr 65)]
noncomputable def kY(P:Params):Obj:=(Obj.mk (vt "dict") none (Data.dict #[de P "__name__" 165 vp,de P "__doc__" 166 vn,de P "__package__" 167 vn,de P "__loader__" 168 (vb "__main__.__loader__#\x6fpaque"),de P "__spec__" 169 vn,de P "__annotations__" 170 (vr 6),de P "__builtins__" 171 (vr 4),de P "__file__" 173 (vc 172),de P "__cached__" 174 vn,de P "_sre" 275 (vr 12),de P "_wall" 288 (vr 38),de P "_twin_re_1" 504 (vr 43),de P "C_NONE" 513 (vi 0 508),de P "C_BACKSLASH" 514 (vi 1 509),de P "C_STRING_FIRST_LINE" 515 (vi 2 510),de P "C_STRING_NEXT_LINES" 516 (vi 3 511),de P "C_BRACKET" 517 (vi 4 512),de P "_synchre" 519 (vr 48),de P "ParseMap" 547 (vr 65),de P "trans" 809 (vr 73)] 20) #[])
noncomputable def iU:Obj:=fi (vt "builtin_function_or_method") [(vb "dict.fromkeys"),(vr 65)]
noncomputable def iV:Obj:=fi (vt "range") [(vi 0 550),(vi 128 549),(vi 1 551)]
noncomputable def mM:Obj:=(Obj.mk (vr 65) (some 72) (Data.dict #[dx 0,dx 1,dx 2,dx 3,dx 4,dx 5,dx 6,dx 7,dx 8,dx 9,dx 10,dx 11,dx 12,dx 13,dx 14,dx 15,dx 16,dx 17,dx 18,dx 19,dx 20,dx 21,dx 22,dx 23,dx 24,dx 25,dx 26,dx 27,dx 28,dx 29,dx 30,dx 31,dx 32,dx 33,dx 34,dx 35,dx 36,dx 37,dx 38,dx 39,dx 40,dx 41,dx 42,dx 43,dx 44,dx 45,dx 46,dx 47,dx 48,dx 49,dx 50,dx 51,dx 52,dx 53,dx 54,dx 55,dx 56,dx 57,dx 58,dx 59,dx 60,dx 61,dx 62,dx 63,dx 64,dx 65,dx 66,dx 67,dx 68,dx 69,dx 70,dx 71,dx 72,dx 73,dx 74,dx 75,dx 76,dx 77,dx 78,dx 79,dx 80,dx 81,dx 82,dx 83,dx 84,dx 85,dx 86,dx 87,dx 88,dx 89,dx 90,dx 91,dx 92,dx 93,dx 94,dx 95,dx 96,dx 97,dx 98,dx 99,dx 100,dx 101,dx 102,dx 103,dx 104,dx 105,dx 106,dx 107,dx 108,dx 109,dx 110,dx 111,dx 112,dx 113,dx 114,dx 115,dx 116,dx 117,dx 118,dx 119,dx 120,dx 121,dx 122,dx 123,dx 124,dx 125,dx 126,dx 127] 128) #[])
noncomputable def iW:Obj:=fi (vt "range_iterator") (is [128,0,1])
noncomputable def iX:Obj:=fi (vt "StopIteration") [(vr 75),vn,vn,vn,vF,vn]
noncomputable def mN:Obj:=fi vn [(i0 2),(i0 0),(vr 37),(i0 9),(i0 0),(vr 54),(i0 14),(i0 13),(vr 80),(i0 15),(i0 13),(vr 95),(i0 16),(i0 13),(vr 110)]
noncomputable def iY:Obj:=(Obj.mk (vr 65) (some 72) (Data.dict #[dx 0,dx 1,dx 2,dx 3,dx 4,dx 5,dx 6,dx 7,dx 8,dx 9,dn 10 10 573 10 900,dx 11,dx 12,dx 13,dx 14,dx 15,dx 16,dx 17,dx 18,dx 19,dx 20,dx 21,dx 22,dx 23,dx 24,dx 25,dx 26,dx 27,dx 28,dx 29,dx 30,dx 31,dx 32,dx 33,dn 34 34 621 34 885,dn 35 35 623 35 905,dx 36,dx 37,dx 38,dn 39 39 631 39 890,dn 40 40 633 40 826,dn 41 41 635 41 856,dx 42,dx 43,dx 44,dx 45,dx 46,dx 47,dx 48,dx 49,dx 50,dx 51,dx 52,dx 53,dx 54,dx 55,dx 56,dx 57,dx 58,dx 59,dx 60,dx 61,dx 62,dx 63,dx 64,dx 65,dx 66,dx 67,dx 68,dx 69,dx 70,dx 71,dx 72,dx 73,dx 74,dx 75,dx 76,dx 77,dx 78,dx 79,dx 80,dx 81,dx 82,dx 83,dx 84,dx 85,dx 86,dx 87,dx 88,dx 89,dx 90,dn 91 91 735 40 838,dn 92 92 737 92 895,dn 93 93 739 41 868,dx 94,dx 95,dx 96,dx 97,dx 98,dx 99,dx 100,dx 101,dx 102,dx 103,dx 104,dx 105,dx 106,dx 107,dx 108,dx 109,dx 110,dx 111,dx 112,dx 113,dx 114,dx 115,dx 116,dx 117,dx 118,dx 119,dx 120,dx 121,dx 122,dn 123 123 799 40 832,dx 124,dn 125 125 803 41 862,dx 126,dx 127] 128) #[])
noncomputable def gm:Obj:=fi (vt "str_ascii_iterator") [vn,(i0 3)]
noncomputable def kZ:Obj:=fi (vt "code") [(vs "<genexpr>" 811),(vs "<genexpr>" 812),(vc 813),(i0 14),(i0 1),(i0 0),(i0 0),(i0 35),(vr 78),vT,(i0 276),(vr 79),vn,vn,vn,vn,(i0 814),(i0 14),(vc 815)]
noncomputable def k7(P:Params):Obj:=(Obj.mk (vt "frame") none (Data.dict #[de P ".0" 816 (vr 77),de P "c" 823 (vs "[" 834)] 2) #[])
noncomputable def k8:Obj:=fi (vt "generator") [(i0 0),(vs "<genexpr>" 817),(vs "<genexpr>" 818)]
noncomputable def k9:Obj:=tu [(vs "'generator' object has no \x61ttribute 'keys'" 820)]
noncomputable def lf:Obj:=fi (vt "AttributeError") [(vr 83),vn,vn,vn,vF,vn,(vs "keys" 821),(vr 82)]
noncomputable def lg:Obj:=tu [(vi 40 824),(vi 40 826)]
noncomputable def lh:Obj:=tu [(vi 123 830),(vi 40 832)]
noncomputable def lj:Obj:=tu [(vi 91 836),(vi 40 838)]
noncomputable def lk:Obj:=fi (vt "StopIteration") [(vr 88),vn,vn,vn,vF,vn]
noncomputable def ll:Obj:=fi (vt "StopIteration") [(vr 90),vn,vn,vn,vF,vn]
noncomputable def lm:Obj:=fi (vt "code") [(vs "<genexpr>" 841),(vs "<genexpr>" 842),(vc 843),(i0 15),(i0 1),(i0 0),(i0 0),(i0 35),(vr 93),vT,(i0 276),(vr 94),vn,vn,vn,vn,(i0 844),(i0 15),(vc 845)]
noncomputable def lp(P:Params):Obj:=(Obj.mk (vt "frame") none (Data.dict #[de P ".0" 846 (vr 92),de P "c" 853 (vs "]" 864)] 2) #[])
noncomputable def lq:Obj:=fi (vt "generator") [(i0 1),(vs "<genexpr>" 847),(vs "<genexpr>" 848)]
noncomputable def lr:Obj:=tu [(vs "'generator' object has no \x61ttribute 'keys'" 850)]
noncomputable def ls:Obj:=fi (vt "AttributeError") [(vr 98),vn,vn,vn,vF,vn,(vs "keys" 851),(vr 97)]
noncomputable def lu:Obj:=tu [(vi 41 854),(vi 41 856)]
noncomputable def lw:Obj:=tu [(vi 125 860),(vi 41 862)]
noncomputable def lx:Obj:=tu [(vi 93 866),(vi 41 868)]
noncomputable def ly:Obj:=fi (vt "StopIteration") [(vr 103),vn,vn,vn,vF,vn]
noncomputable def lz:Obj:=fi (vt "StopIteration") [(vr 105),vn,vn,vn,vF,vn]
noncomputable def lA:Obj:=fi (vt "str_ascii_iterator") [vn,(i0 5)]
noncomputable def lB:Obj:=fi (vt "code") [(vs "<genexpr>" 871),(vs "<genexpr>" 872),(vc 873),(i0 16),(i0 1),(i0 0),(i0 0),(i0 35),(vr 108),vT,(i0 276),(vr 109),vn,vn,vn,vn,(i0 874),(i0 16),(vc 875)]
noncomputable def lC(P:Params):Obj:=(Obj.mk (vt "frame") none (Data.dict #[de P ".0" 876 (vr 107),de P "c" 883 (vs "#" 902)] 2) #[])
noncomputable def lD:Obj:=fi (vt "generator") [(i0 2),(vs "<genexpr>" 877),(vs "<genexpr>" 878)]
noncomputable def lE:Obj:=tu [(vs "'generator' object has no \x61ttribute 'keys'" 880)]
noncomputable def lF:Obj:=fi (vt "AttributeError") [(vr 113),vn,vn,vn,vF,vn,(vs "keys" 881),(vr 112)]
noncomputable def lG:Obj:=tu [(vi 34 884),(vi 34 885)]
noncomputable def lH:Obj:=tu [(vi 39 889),(vi 39 890)]
noncomputable def lI:Obj:=tu [(vi 92 894),(vi 92 895)]
noncomputable def lJ:Obj:=tu [(vi 10 899),(vi 10 900)]
noncomputable def lK:Obj:=tu [(vi 35 904),(vi 35 905)]
noncomputable def bU:Obj:=fi (vt "StopIteration") [(vr 120),vn,vn,vn,vF,vn]
noncomputable def bV:Obj:=fi (vt "StopIteration") [(vr 122),vn,vn,vn,vF,vn]
noncomputable def bW(P:Params):Obj:=(Obj.mk (vt "dict") none (Data.dict #[de P "__name__" 165 (vs "law_km0029_05" 1055),de P "__doc__" 166 vn,de P "__package__" 167 vn,de P "__loader__" 168 (vb "__main__.__loader__#\x6fpaque"),de P "__spec__" 169 vn,de P "__annotations__" 170 (vr 6),de P "__builtins__" 171 (vr 4),de P "__file__" 173 (vc 172),de P "__cached__" 174 vn,de P "_sre" 275 (vr 12),de P "_wall" 288 (vr 38),de P "_twin_re_1" 504 (vr 43),de P "C_NONE" 513 (vi 0 508),de P "C_BACKSLASH" 514 (vi 1 509),de P "C_STRING_FIRST_LINE" 515 (vi 2 510),de P "C_STRING_NEXT_LINES" 516 (vi 3 511),de P "C_BRACKET" 517 (vi 4 512),de P "_synchre" 519 (vr 48),de P "ParseMap" 547 (vr 65),de P "trans" 809 (vr 73),de P "Parser" 1054 (vr 231),de P "_law_state" 1063 (vr 242),de P "_law_answer" 1074 (vr 249),de P "_law_order" 1080 (vr 254),de P "law" 1086 (vr 259)] 25) #[])
noncomputable def ij:Obj:=fi vn [(i0 2),(i0 0),(vr 37),(i0 9),(i0 0),(vr 54),(i0 14),(i0 13),(vr 80),(i0 15),(i0 13),(vr 95),(i0 16),(i0 13),(vr 110),(i0 17),(i0 0),(vr 129),(i0 169),(i0 0),(vr 241),(i0 173),(i0 0),(vr 248),(i0 178),(i0 0),(vr 253),(i0 184),(i0 0),(vr 258)]
noncomputable def im(P:Params):Obj:=(Obj.mk (vt "dict") none (Data.dict #[de P "__module__" 914 vp,de P "__qualname__" 916 (vs "Parser" 915),de P "__firstlineno__" 918 (vi 17 917),de P "__init__" 927 (vr 137),de P "set_code" 935 (vr 144),de P "find_good_parse_start" 950 (vr 151),de P "set_lo" 958 (vr 158),de P "_study1" 977 (vr 165),de P "get_continuation_type" 984 (vr 172),de P "_study2" 991 (vr 179),de P "compute_bracket_indent" 998 (vr 186),de P "get_num_lines_in_stmt" 1005 (vr 193),de P "compute_backslash_indent" 1012 (vr 200),de P "get_base_indent_string" 1019 (vr 207),de P "is_block_opener" 1026 (vr 214),de P "is_block_closer" 1033 (vr 221),de P "get_last_stmt_bracketing" 1040 (vr 228),de P "__static_attributes__" 1047 (vr 229)] 18) #[])
noncomputable def ip:Obj:=fi vn [(i0 19),(i0 4),(vr 136),(i0 23),(i0 4),(vr 143),(i0 28),(i0 4),(vr 150),(i0 53),(i0 4),(vr 157),(i0 56),(i0 4),(vr 164),(i0 141),(i0 4),(vr 171),(i0 145),(i0 4),(vr 178),(i0 148),(i0 4),(vr 185),(i0 151),(i0 4),(vr 192),(i0 154),(i0 4),(vr 199),(i0 157),(i0 4),(vr 206),(i0 160),(i0 4),(vr 213),(i0 163),(i0 4),(vr 220),(i0 166),(i0 4),(vr 227)]
noncomputable def iq:Obj:=fi (vt "code") [(vs "Parser" 909),(vs "Parser" 910),(vc 911),(i0 17),(i0 0),(i0 0),(i0 0),(i0 0),(vr 127),vF,(i0 276),(vr 128),vn,vn,vn,vn,(i0 912),(i0 17),(vc 913)]
noncomputable def ir:Obj:=(Obj.mk (vt "frame") none .plain #[(some (vr 129)),(some (vr 3)),(some (vr 126)),none,(some vp),none,(some (vr 0))])
noncomputable def bX:Obj:=tu (st 922 ["self","indentwidth","tabwidth"])
noncomputable def iu:Obj:=fn vn "__init__" "Parser.__init__" (sC 11 0) 0 vn vn
noncomputable def bZ:Obj:=cd "__init__" "Parser.__init__" 919 19 3 131 925
noncomputable def b5:Obj:=fn (vt "function") "__init__" "Parser.__init__" (sC 11 0) 3 vp (vr 136)
noncomputable def b6:Obj:=tu (st 931 ["self","s"])
noncomputable def iv:Obj:=fn vn "set_code" "Parser.set_code" (sC 11 1) 0 vn vn
noncomputable def b7:Obj:=cd "set_code" "Parser.set_code" 928 23 2 138 933
noncomputable def b8:Obj:=fn (vt "function") "set_code" "Parser.set_code" (sC 11 1) 3 vp (vr 143)
noncomputable def b9:Obj:=tu (st 939 ["self","is_char_in_string","code","pos","limit","tries","i","m","s"])
noncomputable def iy:Obj:=fn vn "find_good_parse_start" "Parser.find_good_parse_start" (sC 11 2) 0 vn vn
noncomputable def cf:Obj:=cd "find_good_parse_start" "Parser.find_good_parse_start" 936 28 2 145 948
noncomputable def cg:Obj:=fn (vt "function") "find_good_parse_start" "Parser.find_good_parse_start" (sC 11 2) 3 vp (vr 150)
noncomputable def ci:Obj:=tu (st 954 ["self","lo"])
noncomputable def iz:Obj:=fn vn "set_lo" "Parser.set_lo" (sC 11 3) 0 vn vn
noncomputable def cj:Obj:=cd "set_lo" "Parser.set_lo" 951 53 2 152 956
noncomputable def ck:Obj:=fn (vt "function") "set_lo" "Parser.set_lo" (sC 11 3) 3 vp (vr 157)
noncomputable def cp:Obj:=tu (st 962 ["self","code","continuation","level","lno","goodlines","push_good","i","n","ch","quote","firstlno","w"])
noncomputable def iA:Obj:=fn vn "_study1" "Parser._study1" (sC 11 4) 0 vn vn
noncomputable def cq:Obj:=cd "_study1" "Parser._study1" 959 56 1 159 975
noncomputable def cr:Obj:=fn (vt "function") "_study1" "Parser._study1" (sC 11 4) 3 vp (vr 164)
noncomputable def cu:Obj:=tu [(vs "self" 981)]
noncomputable def iB:Obj:=fn vn "get_continuation_type" "Parser.get_continuation_type" (sC 11 5) 0 vn vn
noncomputable def cw:Obj:=cd "get_continuation_type" "Parser.get_continuation_type" 978 141 1 166 982
noncomputable def cx:Obj:=fn (vt "function") "get_continuation_type" "Parser.get_continuation_type" (sC 11 5) 3 vp (vr 171)
noncomputable def cy:Obj:=tu [(vs "self" 988)]
noncomputable def iC:Obj:=fn vn "_study2" "Parser._study2" (sC 11 6) 0 vn vn
noncomputable def cz:Obj:=cd "_study2" "Parser._study2" 985 145 1 173 989
noncomputable def cB:Obj:=fn (vt "function") "_study2" "Parser._study2" (sC 11 6) 3 vp (vr 178)
noncomputable def cC:Obj:=tu [(vs "self" 995)]
noncomputable def iE:Obj:=(Obj.mk vn none (Data.func (@PySem.FuncData.mk (so "compute_bracket_indent") (so "Parser.compute_bracket_indent") (fA (sC 11 7)) (@PySem.FuncBody.stmts (fB (sC 11 7))) (fS (sC 11 6)) 0 [] vn vn vn vn none vn vn 0)) #[])
noncomputable def cD:Obj:=cd "compute_bracket_indent" "Parser.compute_bracket_indent" 992 148 1 180 996
noncomputable def cF:Obj:=(Obj.mk (vt "function") none (Data.func (@PySem.FuncData.mk (so "compute_bracket_indent") (so "Parser.compute_bracket_indent") (fA (sC 11 7)) (@PySem.FuncBody.stmts (fB (sC 11 7))) (fS (sC 11 6)) 3 [] vn vn vn vp none (vr 185) vn 0)) #[])
noncomputable def cG:Obj:=tu [(vs "self" 1002)]
noncomputable def iG:Obj:=(Obj.mk vn none (Data.func (@PySem.FuncData.mk (so "get_num_lines_in_stmt") (so "Parser.get_num_lines_in_stmt") (fA (sC 11 8)) (@PySem.FuncBody.stmts (fB (sC 11 8))) (fS (sC 11 6)) 0 [] vn vn vn vn none vn vn 0)) #[])
noncomputable def cH:Obj:=cd "get_num_lines_in_stmt" "Parser.get_num_lines_in_stmt" 999 151 1 187 1003
noncomputable def cI:Obj:=(Obj.mk (vt "function") none (Data.func (@PySem.FuncData.mk (so "get_num_lines_in_stmt") (so "Parser.get_num_lines_in_stmt") (fA (sC 11 8)) (@PySem.FuncBody.stmts (fB (sC 11 8))) (fS (sC 11 6)) 3 [] vn vn vn vp none (vr 192) vn 0)) #[])
noncomputable def cJ:Obj:=tu [(vs "self" 1009)]
noncomputable def iH:Obj:=(Obj.mk vn none (Data.func (@PySem.FuncData.mk (so "compute_backslash_indent") (so "Parser.compute_backslash_indent") (fA (sC 11 9)) (@PySem.FuncBody.stmts (fB (sC 11 9))) (fS (sC 11 6)) 0 [] vn vn vn vn none vn vn 0)) #[])
noncomputable def cK:Obj:=cd "compute_backslash_indent" "Parser.compute_backslash_indent" 1006 154 1 194 1010
noncomputable def cL:Obj:=(Obj.mk (vt "function") none (Data.func (@PySem.FuncData.mk (so "compute_backslash_indent") (so "Parser.compute_backslash_indent") (fA (sC 11 9)) (@PySem.FuncBody.stmts (fB (sC 11 9))) (fS (sC 11 6)) 3 [] vn vn vn vp none (vr 199) vn 0)) #[])
noncomputable def cM:Obj:=tu [(vs "self" 1016)]
noncomputable def iI:Obj:=(Obj.mk vn none (Data.func (@PySem.FuncData.mk (so "get_base_indent_string") (so "Parser.get_base_indent_string") (fA (sC 11 10)) (@PySem.FuncBody.stmts (fB (sC 11 10))) (fS (sC 11 6)) 0 [] vn vn vn vn none vn vn 0)) #[])
noncomputable def cN:Obj:=cd "get_base_indent_string" "Parser.get_base_indent_string" 1013 157 1 201 1017
noncomputable def cO:Obj:=(Obj.mk (vt "function") none (Data.func (@PySem.FuncData.mk (so "get_base_indent_string") (so "Parser.get_base_indent_string") (fA (sC 11 10)) (@PySem.FuncBody.stmts (fB (sC 11 10))) (fS (sC 11 6)) 3 [] vn vn vn vp none (vr 206) vn 0)) #[])
noncomputable def cP:Obj:=tu [(vs "self" 1023)]
noncomputable def iJ:Obj:=(Obj.mk vn none (Data.func (@PySem.FuncData.mk (so "is_block_opener") (so "Parser.is_block_opener") (fA (sC 11 11)) (@PySem.FuncBody.stmts (fB (sC 11 11))) (fS (sC 11 6)) 0 [] vn vn vn vn none vn vn 0)) #[])
noncomputable def cQ:Obj:=cd "is_block_opener" "Parser.is_block_opener" 1020 160 1 208 1024
noncomputable def cR:Obj:=(Obj.mk (vt "function") none (Data.func (@PySem.FuncData.mk (so "is_block_opener") (so "Parser.is_block_opener") (fA (sC 11 11)) (@PySem.FuncBody.stmts (fB (sC 11 11))) (fS (sC 11 6)) 3 [] vn vn vn vp none (vr 213) vn 0)) #[])
noncomputable def cS:Obj:=tu [(vs "self" 1030)]
noncomputable def iK:Obj:=(Obj.mk vn none (Data.func (@PySem.FuncData.mk (so "is_block_closer") (so "Parser.is_block_closer") (fA (sC 11 12)) (@PySem.FuncBody.stmts (fB (sC 11 12))) (fS (sC 11 6)) 0 [] vn vn vn vn none vn vn 0)) #[])
noncomputable def cT:Obj:=cd "is_block_closer" "Parser.is_block_closer" 1027 163 1 215 1031
noncomputable def cU:Obj:=(Obj.mk (vt "function") none (Data.func (@PySem.FuncData.mk (so "is_block_closer") (so "Parser.is_block_closer") (fA (sC 11 12)) (@PySem.FuncBody.stmts (fB (sC 11 12))) (fS (sC 11 6)) 3 [] vn vn vn vp none (vr 220) vn 0)) #[])
noncomputable def cV:Obj:=tu [(vs "self" 1037)]
noncomputable def iL:Obj:=(Obj.mk vn none (Data.func (@PySem.FuncData.mk (so "get_last_stmt_bracketing") (so "Parser.get_last_stmt_bracketing") (fA (sC 11 13)) (@PySem.FuncBody.stmts (fB (sC 11 13))) (fS (sC 11 6)) 0 [] vn vn vn vn none vn vn 0)) #[])
noncomputable def cW:Obj:=cd "get_last_stmt_bracketing" "Parser.get_last_stmt_bracketing" 1034 166 1 222 1038
noncomputable def cX:Obj:=(Obj.mk (vt "function") none (Data.func (@PySem.FuncData.mk (so "get_last_stmt_bracketing") (so "Parser.get_last_stmt_bracketing") (fA (sC 11 13)) (@PySem.FuncBody.stmts (fB (sC 11 13))) (fS (sC 11 6)) 3 [] vn vn vn vp none (vr 227) vn 0)) #[])
noncomputable def cY:Obj:=tu (st 1041 ["code","continuation","goodlines","indentwidth","study_level","tabwidth"])
noncomputable def cZ(P:Params):Obj:=(Obj.mk (vt "dict") none (Data.dict #[de P "__module__" 914 vp,de P "__firstlineno__" 918 (vi 17 917),de P "__init__" 927 (vr 137),de P "set_code" 935 (vr 144),de P "find_good_parse_start" 950 (vr 151),de P "set_lo" 958 (vr 158),de P "_study1" 977 (vr 165),de P "get_continuation_type" 984 (vr 172),de P "_study2" 991 (vr 179),de P "compute_bracket_indent" 998 (vr 186),de P "get_num_lines_in_stmt" 1005 (vr 193),de P "compute_backslash_indent" 1012 (vr 200),de P "get_base_indent_string" 1019 (vr 207),de P "is_block_opener" 1026 (vr 214),de P "is_block_closer" 1033 (vr 221),de P "get_last_stmt_bracketing" 1040 (vr 228),de P "__static_attributes__" 1047 (vr 229),de P "__dict__" 1049 (vr 232),de P "__weakref__" 1051 (vr 233),de P "__doc__" 1052 vn] 4) #[])
noncomputable def da:Obj:=(Obj.mk (vt "type") none (Data.cls (@PySem.ClassData.mk (so "Parser") [(vt "object")] [(vr 231),(vt "object")] 230 (so "Parser") Bool.true [] [] Bool.false none Bool.false)) #[none,none,(some (vs "Parser" 907)),(some (vs "Parser" 915)),(some (vb "object.__new__")),(some vT)])
noncomputable def df:Obj:=fi (vt "getset_descriptor") [(vs "__dict__" 1048),(vr 231),(vb "function.__dict__"),(vb "function.__dict__#set")]
noncomputable def dg:Obj:=fi (vt "getset_descriptor") [(vs "__weakref__" 1050),(vr 231),(vb "ExceptionGroup.__weakref__"),vn]
noncomputable def iM:Obj:=fi (vt "super") [(vr 231),(vr 231),(vr 231)]
noncomputable def iO:Obj:=fi (vt "builtin_function_or_method") [(vb "object.__init_subclass__"),(vr 231)]
noncomputable def dh:Obj:=tu [(vs "parser" 1060)]
noncomputable def iP:Obj:=fn vn "_law_state" "_law_state" (sT 13) 0 vn vn
noncomputable def di:Obj:=cd "_law_state" "_law_state" 1057 169 1 236 1061
noncomputable def dj:Obj:=fn (vt "function") "_law_state" "_law_state" (sT 13) 3 (vs "law_km0029_05" 1055) (vr 241)
noncomputable def dl:Obj:=tu (st 1067 ["asked","stop","error","barred","place"])
noncomputable def iQ:Obj:=fn vn "_law_answer" "_law_answer" (sT 14) 0 vn vn
noncomputable def dp:Obj:=cd "_law_answer" "_law_answer" 1064 173 5 243 1072
noncomputable def dq:Obj:=fn (vt "function") "_law_answer" "_law_answer" (sT 14) 3 (vs "law_km0029_05" 1055) (vr 248)
noncomputable def iR:Obj:=fn vn "_law_order" "_law_order" (sT 15) 0 vn vn
noncomputable def ds:Obj:=fi (vt "code") [(vs "_law_order" 1075),(vs "_law_order" 1076),(vc 1077),(i0 178),(i0 3),(i0 0),(i0 0),(i0 3),(vr 250),vT,(i0 276),(vr 251),vn,vn,vn,(vr 252),(i0 1078),(i0 178),(vc 1079)]
noncomputable def dt:Obj:=fn (vt "function") "_law_order" "_law_order" (sT 15) 3 (vs "law_km0029_05" 1055) (vr 253)
noncomputable def iT:Obj:=fn vn "law" "law" (sT 16) 0 vn vn
noncomputable def du:Obj:=fi (vt "code") [(vs "law" 1081),(vs "law" 1082),(vc 1083),(i0 184),(i0 1),(i0 0),(i0 0),(i0 3),(vr 255),vT,(i0 276),(vr 256),vn,vn,vn,(vr 257),(i0 1084),(i0 184),(vc 1085)]
noncomputable def dv:Obj:=fn (vt "function") "law" "law" (sT 16) 3 (vs "law_km0029_05" 1055) (vr 258)
noncomputable def lY(P:Params):BT:=(N (o0 P) (N (o1 P) (N (o3 P) (N o7 (L o7) (L AX)) (N (Gk P) (L CX) (L WE))) (N o5 (N o9 (L De) (L WC)) (N (DZ P) (L (CU P)) Z))) (N (o2 P) (N o4 (N o8 (L D0) (L AQ)) (N Dr (L (C9 P)) Z)) (N o6 (N Gj (L Df) (L WD)) (N CT (L AW) Z))))
noncomputable def Tj(P:Params):BT:=(N (o0 P) (N (o1 P) (N (o3 P) (N o7 (L o7) (L AX)) (N (YC P) (L CX) (L WE))) (N o5 (N o9 (L De) (L WC)) (N (DZ P) (L (CU P)) Z))) (N (o2 P) (N o4 (N o8 (L D0) (L AQ)) (N Dr (L (C9 P)) Z)) (N o6 (N Gj (L Df) (L WD)) (N CT (L AW) Z))))
noncomputable def mR(P:Params):BT:=(N (o0 P) (N (o1 P) (N (o3 P) (N o7 (N o7 (L aj) Z) (L AX)) (N (YC P) (L CX) (L WE))) (N o5 (N o9 (L De) (L WC)) (N (DZ P) (L (CU P)) (L o8)))) (N (o2 P) (N o4 (N o8 (L D0) (L AQ)) (N Dr (L (C9 P)) (L o7))) (N o6 (N Gj (L Df) (L WD)) (N CT (L AW) (L ai)))))
noncomputable def mS(P:Params):BT:=(N (o0 P) (N (o1 P) (N (o3 P) (N o7 (N o7 (L aj) Z) (L AX)) (N (YC P) (L CX) (L WE))) (N o5 (N o9 (L De) (L WC)) (N (DZ P) (L (CU P)) (L o8)))) (N (o2 P) (N o4 (N o8 (L D0) (L AQ)) (N Dr (L (C9 P)) (L o7))) (N o6 (N Gj (L Df) (L WD)) (N CT (L AW) (L ai)))))
noncomputable def kq(P:Params):BT:=(N (o0 P) (N (o1 P) (N (mK P) (N o7 (N o7 (N aj (L o7) Z) (L fZ)) (N AX (L fV) (L f9))) (N (YC P) (N CX (N o7 (L dM) Z) (L (f6 P))) (N WE (L dB) (L o7)))) (N o5 (N o9 (N De (N o8 (L dJ) Z) (L dD)) (N WC (L fW) (L o8))) (N (DZ P) (N (CU P) (N dy (L gj) Z) (L f7)) (N kX (L fY) (L dG))))) (N (o2 P) (N o4 (N o8 (N D0 (N o7 (L (dI P)) Z) (L dC)) (N AQ (L o6) (L o7))) (N Dr (N (C9 P) (N fU (L gh) Z) (L o7)) (N o7 (L fX) (L gc)))) (N o6 (N Gj (N Df (N dw (L dK) Z) (L dE)) (N WD (L dA) (L dF))) (N CT (N AW (L dz) (L f8)) (N ai (L o7) (L dH))))))
noncomputable def kr(P:Params):BT:=(N (o0 P) (N (o1 P) (N (kY P) (N o7 (N o7 (N aj (L o7) Z) (L fZ)) (N AX (N fV (L iV) Z) (L f9))) (N (YC P) (N CX (N o7 (L dM) Z) (L (f6 P))) (N WE (N dB (L o7) Z) (L o7)))) (N o5 (N o9 (N De (N o8 (L dJ) Z) (L dD)) (N WC (N fW (L mM) Z) (L o8))) (N (DZ P) (N (CU P) (N dy (L gj) Z) (L f7)) (N kX (L fY) (L dG))))) (N (o2 P) (N o4 (N o8 (N D0 (N o7 (L (dI P)) Z) (L dC)) (N AQ (N o6 (L o6) Z) (L o7))) (N Dr (N (C9 P) (N fU (L gh) Z) (L o7)) (N o7 (N fX (L iX) Z) (L gc)))) (N o6 (N Gj (N Df (N dw (L dK) Z) (L dE)) (N WD (N dA (L iW) Z) (L dF))) (N CT (N AW (N dz (L iU) Z) (L f8)) (N ai (L o7) (L dH))))))
noncomputable def fk(P:Params):BT:=(N (o0 P) (N (o1 P) (N (kY P) (N o7 (N o7 (N aj (L o7) (L lm)) (N fZ (L o8) (L (lC P)))) (N AX (N fV (L iV) (L o7)) (N f9 (L lj) (L lK)))) (N (YC P) (N CX (N o7 (L dM) (L ls)) (N (f6 P) (L k9) (L lG))) (N WE (N dB (L o7) (L lA)) (N o7 (L ll) (L bV))))) (N o5 (N o9 (N De (N o8 (L dJ) (L lq)) (N dD (L (k7 P)) (L lE))) (N WC (N fW (L iY) (L o7)) (N o8 (L lk) (L bU)))) (N (DZ P) (N (CU P) (N dy (L gj) (L lw)) (N f7 (L lg) (L lI))) (N mN (N fY (L gm) (L o8)) (N dG (L o7) Z))))) (N (o2 P) (N o4 (N o8 (N D0 (N o7 (L (dI P)) (L (lp P))) (N dC (L kZ) (L lD))) (N AQ (N o6 (L o6) (L ly)) (N o7 (L o7) (L o7)))) (N Dr (N (C9 P) (N fU (L gh) (L lu)) (N o7 (L lf) (L lH))) (N o7 (N fX (L iX) (L o7)) (N gc (L gm) Z)))) (N o6 (N Gj (N Df (N dw (L dK) (L lr)) (N dE (L k8) (L lF))) (N WD (N dA (L iW) (L lz)) (N dF (L o7) (L o7)))) (N CT (N AW (N dz (L iU) (L lx)) (N f8 (L lh) (L lJ))) (N ai (N o7 (L o7) (L lB)) (N dH (L o8) Z))))))
noncomputable def lZ(P:Params):BT:=(N (o0 P) (N (o1 P) (N (bW P) (N o7 (N o7 (N aj (N o7 (N o7 (L o7) Z) (L iG)) (N lm (L o7) (L o8))) (N fZ (N o8 (L b7) (L cO)) (N (lC P) (L cy) (L o7)))) (N AX (N fV (N iV (L iu) (L cK)) (N o7 (L o8) (L da))) (N f9 (N lj (L cg) (L o7)) (N lK (L o7) (L iQ))))) (N (YC P) (N CX (N o7 (N dM (N o7 (L dv) Z) (L o8)) (N ls (L iA) (L cW))) (N (f6 P) (N k9 (L b9) (L o7)) (N lG (L cB) (L o7)))) (N WE (N dB (N o7 (L o8) (L cM)) (N lA (L cw) (L iO))) (N o7 (N ll (L o7) (L iK)) (N bV (L o7) (L o8)))))) (N o5 (N o9 (N De (N o8 (N dJ (N iq (L iT) Z) (L cI)) (N lq (L cp) (L o7))) (N dD (N (k7 P) (L o7) (L o8)) (N lE (L iC) (L di)))) (N WC (N fW (N iY (L b5) (L o7)) (N o7 (L o7) (L dg))) (N o8 (N lk (L o8) (L cS)) (N bU (L cD) (L dq))))) (N (DZ P) (N (CU P) (N dy (N gj (L bX) (L o7)) (N lw (L cr) (L cY))) (N f7 (N lg (L iy) (L cQ)) (N lI (L o8) (L dl)))) (N ij (N fY (N gm (L o7) (L iI)) (N o8 (L o7) (L o8))) (N dG (N o7 (L cj) (L cU)) (N dE (L cG) (L ds))))))) (N (o2 P) (N o4 (N o8 (N D0 (N o7 (N (dI P) (N ip (L o8) Z) (L cH)) (N (lp P) (L o8) (L cV))) (N dC (N kZ (L b8) (L o7)) (N lD (L o7) (L iP)))) (N AQ (N o6 (N o6 (L bZ) (L cL)) (N ly (L cu) (L df))) (N o7 (N o7 (L o7) (L o8)) (N o7 (L iE) (L dp))))) (N Dr (N (C9 P) (N fU (N gh (L o8) (L cJ)) (N lu (L cq) (L cX))) (N o7 (N lf (L o7) (L iJ)) (N lH (L o7) (L o8)))) (N o7 (N fX (N iX (L b6) (L o7)) (N o7 (L cx) (L o7))) (N gc (N gm (L iz) (L cT)) (N o7 (L o8) (L iR)))))) (N o6 (N Gj (N Df (N dw (N dK (N ir (L du) Z) (L o7)) (N lr (L o7) (L iL))) (N dE (N k8 (L o8) (L cP)) (N lF (L cz) (L dj)))) (N WD (N dA (N iW (L o7) (L o8)) (N lz (L iB) (L iM))) (N dF (N o7 (L ci) (L o7)) (N o7 (L cF) (L o7))))) (N CT (N AW (N dz (N iU (L o7) (L iH)) (N lx (L o7) (L (cZ P)))) (N f8 (N lh (L cf) (L cR)) (N lJ (L cC) (L o7)))) (N ai (N o7 (N o7 (L iv) (L cN)) (N lB (L o8) (L dh))) (N dH (N o8 (L ck) (L o7)) (N (im P) (L o7) (L dt))))))))
noncomputable def kh(P:Params)(os:OsState):SharedT:=⟨lY P,28,J1,#[],⟨0,0,0,0⟩,276,os⟩
noncomputable def mY:Pos:=⟨0,0,0,0⟩
noncomputable def lV(P:Params)(os:OsState):SharedT:=⟨Tj P,28,J1,#[],⟨0,0,0,0⟩,276,os⟩
noncomputable def mX:Pos:=⟨0,0,0,0⟩
noncomputable def lW(P:Params)(os:OsState):SharedT:=⟨mR P,32,J1,#[],⟨0,0,0,0⟩,282,os⟩
noncomputable def lQ:Pos:=⟨0,0,0,0⟩
noncomputable def gw(P:Params)(os:OsState):SharedT:=⟨mS P,32,J1,#[],⟨0,0,0,0⟩,282,os⟩
noncomputable def gq:Pos:=⟨0,0,0,0⟩
noncomputable def Pw(P:Params)(os:OsState):SharedT:=⟨kq P,70,J1,#[],⟨0,0,0,0⟩,548,os⟩
noncomputable def Ph:Pos:=⟨9,0,12,18⟩
noncomputable def HN(P:Params)(os:OsState):SharedT:=⟨kr P,77,J1,#[],⟨0,0,0,0⟩,810,os⟩
noncomputable def HM:Pos:=⟨13,0,13,5⟩
noncomputable def FW(P:Params)(os:OsState):SharedT:=⟨fk P,124,J1,#[.finished,.finished,.finished],⟨0,0,0,0⟩,907,os⟩
noncomputable def FQ:Pos:=⟨16,0,16,52⟩
noncomputable def SQ(P:Params)(os:OsState):SharedT:=⟨lZ P,260,J1,#[.finished,.finished,.finished],⟨0,0,0,0⟩,1087,os⟩
noncomputable def lR:Pos:=⟨184,0,231,42⟩
noncomputable def m0:Nat:=28
noncomputable def ev:Env:=⟨pg.main.scope,mainNs,mainNs,[],Str.empty,none,(vr 30),some 31,0⟩
noncomputable def gQ:Pos:=⟨0,0,0,0⟩
noncomputable def an:Option Value:=(some (vr 6))
noncomputable def loose:List Str:=[so "_sre",so "_wall",so "_twin_re_1",so "C_NONE",so "C_BACKSLASH",so "C_STRING_FIRST_LINE",so "C_STRING_NEXT_LINES",so "C_BRACKET",so "_synchre",so "ParseMap",so "trans",so "Parser",so "_law_state",so "_law_answer",so "_law_order"]
noncomputable def kf(P:Params):Frag:=[(2,o2 P),(3,bW P),(32,o7),(34,dw),(35,o7),(37,dy),(38,dz),(42,dA),(43,dB),(48,dC),(49,dD),(56,o7),(58,dF),(59,o7),(61,dG),(62,dH),(63,o7),(64,dI P),(65,dJ),(66,dK),(67,dM),(72,o6),(73,iY),(131,o7),(133,bX),(134,o7),(136,bZ),(137,b5),(138,o7),(140,b6),(141,o7),(143,b7),(144,b8),(145,o7),(147,b9),(148,o7),(150,cf),(151,cg),(152,o7),(154,ci),(155,o7),(157,cj),(158,ck),(159,o7),(161,cp),(162,o7),(164,cq),(165,cr),(166,o7),(168,cu),(169,o7),(171,cw),(172,cx),(173,o7),(175,cy),(176,o7),(178,cz),(179,cB),(180,o7),(182,cC),(183,o7),(185,cD),(186,cF),(187,o7),(189,cG),(190,o7),(192,cH),(193,cI),(194,o7),(196,cJ),(197,o7),(199,cK),(200,cL),(201,o7),(203,cM),(204,o7),(206,cN),(207,cO),(208,o7),(210,cP),(211,o7),(213,cQ),(214,cR),(215,o7),(217,cS),(218,o7),(220,cT),(221,cU),(222,o7),(224,cV),(225,o7),(227,cW),(228,cX),(229,cY),(230,cZ P),(231,da),(232,df),(233,dg),(236,o7),(238,dh),(239,o7),(241,di),(242,dj),(243,o7),(245,dl),(246,o7),(248,dp),(249,dq),(250,o7),(253,ds),(254,dt),(255,o7),(258,du),(259,dv)]
noncomputable def Ws:List Addr:=[2,3,32,34,35,37,38,42,43,48,49,56,58,59,61,62,63,64,65,66,67,72,73,131,133,134,136,137,138,140,141,143,144,145,147,148,150,151,152,154,155,157,158,159,161,162,164,165,166,168,169,171,172,173,175,176,178,179,180,182,183,185,186,187,189,190,192,193,194,196,197,199,200,201,203,204,206,207,208,210,211,213,214,215,217,218,220,221,222,224,225,227,228,229,230,231,232,233,236,238,239,241,242,243,245,246,248,249,250,253,254,255,258,259]
section
set_option maxHeartbeats 0
open PySem.W.Fast
noncomputable def Q6(ex:Thread→Option (List Value))(st:SharedT→Thread→Option (SharedT×Thread)):Nat→SharedT→Thread→Option SharedT
 |0,_,_=>none
 |n+1,s,t=>match ex t with
  |some []=>some s
  |some (_::_)=>none
  |none=>match st s t with
   |some (s',t')=>Q6 ex st n s' t'
   |none=>none
theorem NN{tb:String→Option Builtin}{p:Program}{w:World}:∀{n:Nat} {s s':SharedT} {t:Thread},Q6 Thread.atExitBegin (stepT (denote tb) p w) n s t=some s'→importEnds tb p w n s.abs t=some s'.abs
 |0,_,_,_,h=>by cases h
 |n+1,s,s',t,h=>by
  unfold Q6 at h
  unfold importEnds
  induction he:t.atExitBegin using zh with
  |some x=>rw[he]at h;induction x using zo with
   |nil=>cases h;rfl
   |cons _ _=>cases h
  |none=>
   rw[he]at h
   induction hs:stepT (denote tb) p w s t using zh with
   |none=>rw[hs]at h;cases h
   |some r=>obtain⟨s₂,t₂⟩:=r;rw[hs]at h;dsimp only;rw[stepT_spec hs];exact NN h
noncomputable abbrev Yb(p:Program)(w:World):=Q6 tw3805553451399329143 (tw10156331382660048174 (tw11892475500146522536 tw14364793385576792824) p w)
theorem Uf(p:Program)(w:World):Yb p w=Q6 Thread.atExitBegin (stepT (denote treeTable) p w):=by
 unfold Yb
 rw[te3805553451399329143,te10156331382660048174,te11892475500146522536,te14364793385576792824]
noncomputable def lX(os:OsState):SharedT:=⟨.nil,0,{},#[],{},1,os⟩
theorem ZL(w:World)(os:OsState):Yb (opening pg) w 900 (lX os) (start (opening pg)).2=some (kh w.params os):=by kernel_rfl
theorem VG:(lX (start (opening pg)).1.os).abs=(start (opening pg)).1:=by kernel_rfl
theorem VP(w:World):importEnds treeTable (opening pg) w 900 (start (opening pg)).1 (start (opening pg)).2=some (kh w.params (start (opening pg)).1.os).abs:=by
 have h:=ZL w (start (opening pg)).1.os
 rw[Uf]at h
 have h:=NN h
 rw[VG]at h
 exact h
theorem VO(w:World):(fun os=>(tw14289696077712309145 pg (kh w.params os).abs).map (fun s=>(s.heap,s.gens,s.drawn,s.toks)))=fun _=>some (absHeap (Tj w.params) 28 J1,#[],⟨0,0,0,0⟩,276):=by kernel_rfl
noncomputable abbrev bE:List Stmt:=behindTheImports pg
noncomputable abbrev cE:Code:=.body bE ev
noncomputable abbrev B:List Frame:=[topFrame gQ]
theorem fc(w:World):(fun os=>tw15667345088766844465 tw14364793385576792824 pg w m0 an 12 (lV w.params os).abs (topStub pg))=fun os=>some ((lW w.params os).abs,⟨tw11892475500146522536 tw14364793385576792824 cE,cE,lQ,B⟩):=by kernel_rfl
end
section
set_option maxHeartbeats 0
open PySem.W.Fast
theorem Pi{p:Program}{w:World}{n₀:Nat}{ann:Option Value}{b n:Nat}{s:SharedT}{t:Thread}{r:Option (Flow×SharedT×Code×Pos)}(h:tw10110043849684766642 tw14364793385576792824 p w n₀ ann b n s t=r):segRunT treeTable p w n₀ ann b n s t=r:=by
 rw[te10110043849684766642,te14364793385576792824];exact h
noncomputable def Kc(l:List Stmt)(p:Pos):Thread:=⟨(tw12563942051412417395 l ev).wrap doneF deadEnd id id,cE,p,B⟩
theorem MP(l:List Stmt)(p:Pos):Kc l p=piecesOf l ev cE p B:=by
 unfold Kc piecesOf;rw[←te12563942051412417395]
noncomputable abbrev sl(i n:Nat):List Stmt:=(bE.drop i).take n
noncomputable abbrev i9(w:World)(n:Nat)(s:SharedT)(t:Thread):=tw10110043849684766642 tw14364793385576792824 pg w m0 an 1 n s t
noncomputable abbrev W1(w:World)(b:Bool):World:=w.withFollow "special-get-raises" b
noncomputable abbrev W2(w:World)(b:Bool):World:=w.withFollow "comprehension-iter-twice" b
noncomputable def F5(i n k:Nat)(s s':Params→OsState→SharedT)(p p':Pos)(w:World):Prop:=(fun os=>i9 w k (s w.params os) (Kc (sl i n) p))=fun os=>some (.next,s' w.params os,cE,p')
theorem mB(w:World):F5 0 6 699 gw Pw gq Ph (W1 w false):=by unfold F5;kernel_rfl
theorem mC(w:World):F5 0 6 699 gw Pw gq Ph (W1 w true):=by unfold F5;kernel_rfl
theorem g4(w:World):F5 10 6 777 FW SQ FQ lR w:=by unfold F5;kernel_rfl
end
section
set_option maxHeartbeats 0
theorem mD(w:World):F5 6 1 5256 Pw HN Ph HM (W1 w false):=by unfold F5;kernel_rfl
theorem mE(w:World):F5 6 1 5256 Pw HN Ph HM (W1 w true):=by unfold F5;kernel_rfl
end
section
set_option maxHeartbeats 0
theorem gR(w:World):F5 7 3 1400 HN FW HM FQ (W2 (W1 w false) false):=by unfold F5;kernel_rfl
theorem gS(w:World):F5 7 3 1400 HN FW HM FQ (W2 (W1 w false) true):=by unfold F5;kernel_rfl
theorem gT(w:World):F5 7 3 1400 HN FW HM FQ (W2 (W1 w true) false):=by unfold F5;kernel_rfl
theorem gU(w:World):F5 7 3 1400 HN FW HM FQ (W2 (W1 w true) true):=by unfold F5;kernel_rfl
end
section
set_option maxHeartbeats 0
open PySem.W.Fast
theorem ZM(w:World):((absHeap (Tj w.params) 28 J1).isNs mainGlobals && (#[]:Array GenState).size==0,(absHeap (Tj w.params) 28 J1).objs.size,tw8920871248978507458 (absHeap (Tj w.params) 28 J1) mainGlobals "__annotations__")=(true,m0,an):=by kernel_rfl
theorem l1(w:World):(fun os=>staticsOk (importedModules pg.main.body) (absHeap (Tj w.params) 28 J1) (SQ w.params os).abs.heap)=fun _=>true:=by kernel_rfl
theorem l2(w:World):(fun os=>namesBound pg (SQ w.params os).abs.heap)=fun _=>true:=by kernel_rfl
theorem l3(w:World):(fun os=>gensDone (SQ w.params os).abs)=fun _=>true:=by kernel_rfl
theorem l4(w:World):(fun os=>laidKept (absHeap (Tj w.params) 28 J1) (SQ w.params os).abs.heap)=fun _=>true:=by kernel_rfl
end
section
set_option maxHeartbeats 0
open PySem.W.Fast
noncomputable def q:Program:=view pg [16]
noncomputable abbrev gu:RowW:=PySem.Challenge.rw_km0029_05.row.toRowW
noncomputable def Xt(s:Shared):Bool:=xlAt q [] s && recOk gu.records s
theorem l5(w:World):(fun os=>tw4187177175401517315 q loose (importedModules pg.main.body) Xt false (SQ w.params os).abs)=fun _=>openGood q loose:=by kernel_rfl
theorem Ig(P:Params):Ws=(kf P).map (·.1):=by kernel_rfl
theorem l6(w:World):(fun os=>Ws.map (SQ w.params os).abs.heap.get?)=fun _=>(kf w.params).map fun p=>some p.2:=by kernel_rfl
theorem l7(w:World):(fun os=>([256]:List Addr).map (SQ w.params os).abs.heap.get?)=fun _=>([256]:List Addr).map fun _=>some (tabObj #[]):=by kernel_rfl
end
section
set_option maxHeartbeats 400000
open PySem.W.Fast
theorem F5.seg{i n k:Nat}{s s':Params→OsState→SharedT}{p p':Pos}{w:World}(h:F5 i n k s s' p p' w)(os:OsState):segRun treeTable pg w m0 an 1 k (s w.params os).abs (piecesOf (sl i n) ev cE p B)=some (.next,(s' w.params os).abs,cE,p'):=by
 rw[←MP]
 exact segRun_of (Pi (JE h os))
theorem g1(w:World):F5 0 6 699 gw Pw gq Ph w:=byRow2 "special-get-raises" mB mC w
theorem g2(w:World):F5 6 1 5256 Pw HN Ph HM w:=byRow2 "special-get-raises" mD mE w
theorem g3(w:World):F5 7 3 1400 HN FW HM FQ w:=
 byRow2 "comprehension-iter-twice" (byRow2 "special-get-raises" (P:=fun w=>F5 7 3 1400 HN FW HM FQ (W2 w false)) gR gT) (byRow2 "special-get-raises" (P:=fun w=>F5 7 3 1400 HN FW HM FQ (W2 w true)) gS gU) w
theorem VN(w:World)(os:OsState):segRun treeTable pg w m0 an 1 1 (lW w.params os).abs (blockOf bE ev cE lQ B)=some (.next,(gw w.params os).abs,cE,gq):=by kernel_rfl
theorem fb(w:World)(os:OsState):topRun treeTable pg w m0 an 2 (SQ w.params os).abs ⟨doneF .next,cE,lR,B⟩=some (SQ w.params os).abs:=by kernel_rfl
theorem aG:sl 0 6++(sl 6 1++(sl 7 3++(sl 10 6++[])))=bE:=by kernel_rfl
theorem fe(w:World)(os:OsState):topRun treeTable pg w m0 an (12+(1+(699+(5256+(1400+(777+2)))))) (lV w.params os).abs (topStub pg)=some (SQ w.params os).abs:=by
 have p:=JE (fc w) os
 rw[←te15667345088766844465,←te14364793385576792824,←te11892475500146522536]at p
 refine go_top p (piece_block (VN w os) ?_)
 have k:=piece_app ((g1 w).seg os) (piece_app ((g2 w).seg os) (piece_app ((g3 w).seg os) (piece_app ((g4 w).seg os) (piece_nil (fb w os)))))
 rw[aG]at k
 exact k
theorem SV(w:World):(fencedOpening treeTable pg w 20000).map (fun s=>(s.heap,s.gens,s.drawn,s.toks))=some (absHeap (Tj w.params) 28 J1,#[],⟨0,0,0,0⟩,276):=by
 refine open_cut (p:=pg) (N:=20000) (M:=900) (He:=fun P=>absHeap (lY P) 28 J1) (H₀:=fun P=>absHeap (Tj P) 28 J1) (ge:= #[]) (g₀:= #[]) (de:=⟨0,0,0,0⟩) (d₀:=⟨0,0,0,0⟩) (ke:=276) (k₀:=276) VP (by decide) (fun w=>?_) w
 have h:=VO w
 rw[←te14289696077712309145]at h
 exact h
theorem left:LeftO pg q loose Xt (kmHook kf Ws Ig [256]).obs (kmHook kf Ws Ig [256]).val 20000 false:=by
 refine LeftO.of_pieces (N:=20000) (H₀:=fun P=>absHeap (Tj P) 28 J1) (H₁:=fun P=>absHeap (lZ P) 260 J1) (gs₀:= #[]) (gs₁:= #[.finished,.finished,.finished]) (d₀:=⟨0,0,0,0⟩) (d₁:=⟨0,0,0,0⟩) (k₀:=276) (k₁:=1087) (m₀:=m0) (ann:=an)
  SV ?_ fe (by decide) ?_
 ·intro w
  have h:=ZM w
  rw[←te8920871248978507458]at h
  exact h
 ·intro w
  have h5:=l5 w
  rw[←te4187177175401517315]at h5
  funext os
  have e1:=JE (l1 w) os
  have e2:=JE (l2 w) os
  have e3:=JE (l3 w) os
  have e4:=JE (l4 w) os
  have e5:=JE h5 os
  have e6:=JE (l6 w) os
  have e7:=JE (l7 w) os
  exact Prod.ext (look_both (look_both (look_both e1 e2) e3) e4) (Prod.ext e5 (Prod.ext e6 e7))
end
end Hd
end
namespace Ag
section
theorem Aw{A B:Prop}{G:Prop}(e:A∧B)(k:A→B→G):G:=And.elim k e
theorem Bx{A B C:Prop}{G:Prop}(e:A∧B∧C)(k:A→B→C→G):G:=And.elim (fun h r=>Aw r (k h)) e
theorem HO{A B C D:Prop}{G:Prop}(e:A∧B∧C∧D)(k:A→B→C→D→G):G:=And.elim (fun h r=>Bx r (k h)) e
theorem V7{A B C D E:Prop}{G:Prop}(e:A∧B∧C∧D∧E)(k:A→B→C→D→E→G):G:=And.elim (fun h r=>HO r (k h)) e
theorem Z9{A B C D E F:Prop}{G:Prop}(e:A∧B∧C∧D∧E∧F)(k:A→B→C→D→E→F→G):G:=And.elim (fun h r=>V7 r (k h)) e
theorem kD{A B C D E F H:Prop}{G:Prop}(e:A∧B∧C∧D∧E∧F∧H)(k:A→B→C→D→E→F→H→G):G:=And.elim (fun h r=>Z9 r (k h)) e
theorem Aa{α:Sort _}{A B:α→Prop}{G:Prop}(e:∃x,A x∧B x)(k:∀x,A x→B x→G):G:=zg e fun x h=>Aw h (k x)
theorem BZ{α:Sort _}{A B C:α→Prop}{G:Prop}(e:∃x,A x∧B x∧C x)(k:∀x,A x→B x→C x→G):G:=zg e fun x h=>Bx h (k x)
theorem L7{α:Sort _}{A B C D:α→Prop}{G:Prop}(e:∃x,A x∧B x∧C x∧D x)(k:∀x,A x→B x→C x→D x→G):G:=zg e fun x h=>HO h (k x)
theorem Hm{α:Sort _}{A B C D E:α→Prop}{G:Prop}(e:∃x,A x∧B x∧C x∧D x∧E x)(k:∀x,A x→B x→C x→D x→E x→G):G:=zg e fun x h=>V7 h (k x)
theorem kE{α:Sort _}{A B C D E F H:α→Prop}{G:Prop}(e:∃x,A x∧B x∧C x∧D x∧E x∧F x∧H x)(k:∀x,A x→B x→C x→D x→E x→F x→H x→G):G:=zg e fun x h=>kD h (k x)
theorem Av{α β:Sort _}{A:α→β→Prop}{G:Prop}(e:∃x y,A x y)(k:∀x y,A x y→G):G:=zg e fun x h=>zg h (k x)
theorem AH{α β:Sort _}{A B:α→β→Prop}{G:Prop}(e:∃x y,A x y∧B x y)(k:∀x y,A x y→B x y→G):G:=zg e fun x h=>Aa h (k x)
theorem Aq{α β:Sort _}{A B C:α→β→Prop}{G:Prop}(e:∃x y,A x y∧B x y∧C x y)(k:∀x y,A x y→B x y→C x y→G):G:=zg e fun x h=>BZ h (k x)
theorem PH{α β:Sort _}{A B C D:α→β→Prop}{G:Prop}(e:∃x y,A x y∧B x y∧C x y∧D x y)(k:∀x y,A x y→B x y→C x y→D x y→G):G:=zg e fun x h=>L7 h (k x)
theorem fE{α β:Sort _}{A B C D E:α→β→Prop}{G:Prop}(e:∃x y,A x y∧B x y∧C x y∧D x y∧E x y)(k:∀x y,A x y→B x y→C x y→D x y→E x y→G):G:=zg e fun x h=>Hm h (k x)
theorem kF{α β:Sort _}{A B C D E F H:α→β→Prop}{G:Prop}(e:∃x y,A x y∧B x y∧C x y∧D x y∧E x y∧F x y∧H x y)(k:∀x y,A x y→B x y→C x y→D x y→E x y→F x y→H x y→G):G:=zg e fun x h=>kE h (k x)
theorem fF{α β γ:Sort _}{A:α→β→γ→Prop}{G:Prop}(e:∃x y z,A x y z)(k:∀x y z,A x y z→G):G:=zg e fun x h=>Av h (k x)
theorem DS{α β γ:Sort _}{A B:α→β→γ→Prop}{G:Prop}(e:∃x y z,A x y z∧B x y z)(k:∀x y z,A x y z→B x y z→G):G:=zg e fun x h=>AH h (k x)
theorem Hn{α β γ:Sort _}{A B C:α→β→γ→Prop}{G:Prop}(e:∃x y z,A x y z∧B x y z∧C x y z)(k:∀x y z,A x y z→B x y z→C x y z→G):G:=zg e fun x h=>Aq h (k x)
theorem AD{α β γ:Sort _}{A B C D:α→β→γ→Prop}{G:Prop}(e:∃x y z,A x y z∧B x y z∧C x y z∧D x y z)(k:∀x y z,A x y z→B x y z→C x y z→D x y z→G):G:=zg e fun x h=>PH h (k x)
theorem aa{α β γ:Sort _}{A B C D E:α→β→γ→Prop}{G:Prop}(e:∃x y z,A x y z∧B x y z∧C x y z∧D x y z∧E x y z)(k:∀x y z,A x y z→B x y z→C x y z→D x y z→E x y z→G):G:=zg e fun x h=>fE h (k x)
theorem fG{α β γ:Sort _}{A B C D E F H:α→β→γ→Prop}{G:Prop}(e:∃x y z,A x y z∧B x y z∧C x y z∧D x y z∧E x y z∧F x y z∧H x y z)(k:∀x y z,A x y z→B x y z→C x y z→D x y z→E x y z→F x y z→H x y z→G):G:=zg e fun x h=>kF h (k x)
theorem ab{α β γ δ:Sort _}{A:α→β→γ→δ→Prop}{G:Prop}(e:∃x y z w,A x y z w)(k:∀x y z w,A x y z w→G):G:=zg e fun x h=>fF h (k x)
theorem DT{α β γ δ ε:Sort _}{A:α→β→γ→δ→ε→Prop}{G:Prop}(e:∃x y z w u,A x y z w u)(k:∀x y z w u,A x y z w u→G):G:=zg e fun x h=>ab h (k x)
theorem Nf{α β γ δ:Sort _}{A B:α→β→γ→δ→Prop}{G:Prop}(e:∃x y z w,A x y z w∧B x y z w)(k:∀x y z w,A x y z w→B x y z w→G):G:=zg e fun x h=>DS h (k x)
theorem fH{α β γ δ:Sort _}{A B C:α→β→γ→δ→Prop}{G:Prop}(e:∃x y z w,A x y z w∧B x y z w∧C x y z w)(k:∀x y z w,A x y z w→B x y z w→C x y z w→G):G:=zg e fun x h=>Hn h (k x)
noncomputable abbrev Txt:=List Nat
inductive Val where
 |none
 |bool (b:Bool)
 |int (i:Int)
 |str (t:Txt)
 |seq (tup:Bool) (xs:List Val)
 |obj (d:Nat)
 |mt (s e:Nat)
 |hl (j:Nat)
 |exc (a:Nat)
 |ad (a:Nat)
inductive LV where
 |v (x:Val)
 |loc (k:Nat)
 |app (k:Nat)
 |cb (k:Nat) (xs:List Val)
inductive Cell where
 |Ao (fs:List (Option Val))
 |Ak (xs:List Val)
 |taken
structure St where
 loc:List (Option LV)
 own:List (List Val)
 self:List (Option LV)
 heap:List Cell
noncomputable def AJ:Nat:=16777216
noncomputable def Bo:Txt→Txt→Bool
 |[],[]=>true
 |a::x,b::y=>cond (Nat.beq a b) (Bo x y) false
 |_,_=>false
noncomputable def pre? :Txt→Txt→Bool
 |[],_=>true
 |_::_,[]=>false
 |a::x,b::y=>cond (Nat.beq a b) (pre? x y) false
noncomputable def cin(c:Nat):Txt→Bool
 |[]=>false
 |b::y=>cond (Nat.beq c b) true (cin c y)
noncomputable def ltI:Int→Int→Bool
 | .ofNat a,.ofNat b=>Nat.blt a b
 | .ofNat _,.negSucc _=>false
 | .negSucc _,.ofNat _=>true
 | .negSucc a,.negSucc b=>Nat.blt b a
noncomputable def FJ:Int→Int→Bool
 | .ofNat a,.ofNat b=>Nat.beq a b
 | .ofNat _,.negSucc _=>false
 | .negSucc _,.ofNat _=>false
 | .negSucc a,.negSucc b=>Nat.beq a b
noncomputable def Mi{α:Type}(t:List α):Int→Option α
 | .ofNat n=>t[n]?
 | .negSucc n=>cond (Nat.blt n t.length) t[t.length - (n+1)]? none
noncomputable def clip(n:Nat):Int→Nat
 | .ofNat k=>min k n
 | .negSucc k=>n - (k+1)
noncomputable def CL:Val→Option Int
 | .none=>some 0
 | .int i=>some i
 |_=>none
noncomputable def Ca(n:Nat):Val→Option Int
 | .none=>some (.ofNat n)
 | .int i=>some i
 |_=>none
noncomputable def sliceOf{α:Type}(t:List α)(a b:Nat):List α:=(t.take b).drop a
noncomputable def slice{α:Type}(t:List α)(lo hi:Int):List α:=sliceOf t (clip t.length lo) (clip t.length hi)
noncomputable def rep(t:Txt):Nat→Txt
 |0=>[]
 |n+1=>t++rep t n
noncomputable def Dg(x t:Txt)(b i:Nat):Bool:=cond (Nat.ble (i+x.length) b) (pre? x (t.drop i)) false
noncomputable def E7(p:Nat→Bool):Nat→Nat→Int
 |_,0=> -1
 |k,n+1=>cond (p k) (.ofNat k) (E7 p (k+1) n)
noncomputable def B4(p:Nat→Bool):Nat→Nat→Int→Int
 |_,0,r=>r
 |k,n+1,r=>B4 p (k+1) n (cond (p k) (.ofNat k) r)
noncomputable def H5(x t:Txt)(a b:Nat):Int:=E7 (Dg x t b) a (b+1 - a)
noncomputable def A4(x t:Txt)(a b:Nat):Int:=B4 (Dg x t b) a (b+1 - a) (-1)
noncomputable def AF(old new:Txt):Nat→Txt→Txt
 |_,[]=>[]
 |k+1,_::y=>AF old new k y
 |0,c::y=>cond (pre? old (c::y)) (new++AF old new (old.length - 1) y) (c::AF old new 0 y)
noncomputable def CP(c:Nat):Nat:=
 cond (cin c [40,123,91]) 40 (cond (cin c [41,125,93]) 41 (cond (cin c [34,39,92,10,35]) c 120))
noncomputable def Bq(n:Nat):Txt→Bool
 |[]=>true
 |c::y=>cond (Nat.blt c n) (Bq n y) false
inductive P1 where |len |neg |squeeze |sum |isnone |notnone |mstart |mspan |syn1
inductive P2 where |add |sub |mul |fdiv |mod |eq |ne |lt |gt |ge |isin |idx |syn2
inductive P3 where |slc |find |replace |syn3
inductive P4 where |rfind
structure Rx where
 syn:Txt→Nat→Nat→Option (Nat×Nat)
noncomputable def CM:Option (Nat×Nat)→Option Val
 |some p=>some (.mt p.1 p.2)
 |none=>some .none
noncomputable def Fb :Val→Option Int
 | .int i=>some i
 |_=>none
noncomputable def Wi :Val→Option Bool
 | .bool i=>some i
 |_=>none
noncomputable def WA :Val→Option Unit
 | .none=>some ()
 |_=>none
noncomputable def Ez :Val→Option Txt
 | .str t=>some t
 |_=>none
noncomputable def Fe :Val→Option (List Val)
 | .seq t xs=>cond t none (some xs)
 |_=>none
noncomputable def kU :Val→Option (Nat×Nat)
 | .mt s e=>some (s,e)
 |_=>none
noncomputable def RD:Int→Option Nat
 | .ofNat n=>some n
 | .negSucc _=>none
noncomputable def YT:Nat→Option Nat
 |0=>none
 |n+1=>some n
noncomputable def J6(x:Val):Option Nat:=(Fb x).bind RD
noncomputable def sumOf:List Val→Option Int
 |[]=>some 0
 |x::r=>(Fb x).bind fun i=>(sumOf r).bind fun k=>some (i+k)
noncomputable def Rb(b:Bool):Val→Option Val
 | .none=>some (.bool b)
 | .int _=>some (.bool !b)
 |_=>none
noncomputable def bC(x:Val):Option Val:=match x with
 | .str t=>some (.int (.ofNat t.length))
 |x=>(Fe x).bind fun xs=>some (.int (.ofNat xs.length))
noncomputable def Cb(rx:Rx):P1→Val→Option Val
 | .len,x=>bC x
 | .neg,x=>(Fb x).bind fun i=>some (.int (-i))
 | .isnone,x=>Rb true x
 | .squeeze,x=>(Ez x).bind fun t=>cond (Bq 128 t) (some (.str (t.map CP))) none
 | .sum,x=>(Fe x).bind fun xs=>(sumOf xs).bind fun k=>some (.int k)
 | .notnone,x=>Rb false x
 | .mstart,x=>(kU x).bind fun p=>some (.int (.ofNat p.1))
 | .mspan,x=>(kU x).bind fun p=>some (.seq true [.int (.ofNat p.1),.int (.ofNat p.2)])
 | .syn1,x=>(Ez x).bind fun t=>cond (Nat.ble t.length 50000) (CM (rx.syn t 0 t.length)) none
noncomputable def WK:Val→Val→Bool
 | .bool a,.bool b=>cond a b (!b)
 | .int a,.int b=>FJ a b
 | .str a,.str b=>Bo a b
 |_,_=>false
noncomputable def CV:List Val→List Val→Bool
 |[],[]=>true
 |x::xs,y::ys=>cond (WK x y) (CV xs ys) false
 |_,_=>false
noncomputable def B5:List Val→List Val→Option Bool
 |[],[]=>some true
 |[],_::_=>some false
 |_::_,[]=>some false
 |x::xs,y::ys=>cond (CV (x::xs) (y::ys)) (some true) none
noncomputable def fC(x y:Val):Option Bool:=match x with
 | .bool a=>(Wi y).bind fun b=>some (cond a b (!b))
 | .int a=>(Fb y).bind fun b=>some (FJ a b)
 | .str a=>(Ez y).bind fun b=>some (Bo a b)
 | .none=>(WA y).bind fun _=>some true
 |x=>(Fe x).bind fun a=>(Fe y).bind fun b=>B5 a b
noncomputable def CJ(x:Int):List Val→Option Bool
 |[]=>some false
 |y::r=>(Fb y).bind fun y=>(CJ x r).bind fun b=>some (cond (FJ y x) true b)
noncomputable def FL(k:Int→Int→Option Val)(x y:Val):Option Val:=(Fb x).bind fun a=>(Fb y).bind fun b=>k a b
noncomputable def WY(x y:Val):Option Val:=match x with
 | .int a=>(Fb y).bind fun b=>some (.int (a+b))
 | .str a=>(Ez y).bind fun b=>cond (Nat.ble (a.length+b.length) AJ) (some (.str (a++b))) none
 |x=>(Fe x).bind fun a=>(Fe y).bind fun b=>cond (Nat.ble (a.length+b.length) AJ) (some (.seq false (a++b))) none
noncomputable def X8(x:Val)(i:Int):Option Val:=match x with
 | .str t=>(Mi t i).bind fun c=>some (.str [c])
 |x=>(Fe x).bind fun xs=>Mi xs i
noncomputable def Bu(rx:Rx):P2→Val→Val→Option Val
 | .add,x,y=>WY x y
 | .sub,x,y=>FL (fun a b=>some (.int (a - b))) x y
 | .mul,x,y=>(Ez x).bind fun a=>(J6 y).bind fun n=>cond (Nat.ble (a.length*n) AJ && Nat.ble n AJ) (some (.str (rep a n))) none
 | .fdiv,x,y=>FL (fun a b=>((RD b).bind YT).bind fun n=>cond (Nat.blt n 1000000) (some (.int (Int.fdiv a (.ofNat (n+1))))) none) x y
 | .mod,x,y=>FL (fun a b=>((RD b).bind YT).bind fun n=>some (.int (Int.fmod a (.ofNat (n+1))))) x y
 | .eq,x,y=>(fC x y).bind fun b=>some (.bool b)
 | .ne,x,y=>(fC x y).bind fun b=>some (.bool !b)
 | .lt,x,y=>FL (fun a b=>some (.bool (ltI a b))) x y
 | .gt,x,y=>FL (fun a b=>some (.bool (ltI b a))) x y
 | .ge,x,y=>FL (fun a b=>some (.bool !(ltI a b))) x y
 | .isin,_,_=>none
 | .idx,x,y=>(Fb y).bind fun i=>X8 x i
 | .syn2,x,y=>(Ez x).bind fun t=>(J6 y).bind fun p=>cond (Nat.ble p t.length && Nat.ble t.length 50000) (CM (rx.syn t p t.length)) none
noncomputable def both:Option Int→Option Int→(Int→Int→Val)→Option Val
 |some a,some b,k=>some (k a b)
 |_,_,_=>none
noncomputable def Zp(x lo hi:Val):Option Val:=match x with
 | .str t=>both (CL lo) (Ca t.length hi) fun a b=>.str (slice t a b)
 |x=>(Fe x).bind fun t=>both (CL lo) (Ca t.length hi) fun a b=>.seq false (slice t a b)
noncomputable def Eu(rx:Rx):P3→Val→Val→Val→Option Val
 | .slc,x,lo,hi=>Zp x lo hi
 | .find,x,y,z=>(Ez x).bind fun t=>(Ez y).bind fun u=>(J6 z).bind fun a=>some (.int (H5 u t a t.length))
 | .replace,x,y,z=>(Ez x).bind fun t=>(Ez y).bind fun u=>(Ez z).bind fun new=>match u with
  |[]=>none
  |o::old=>cond (Nat.ble new.length (old.length+1) && Nat.ble t.length 1000000) (some (.str (AF (o::old) new 0 t))) none
 | .syn3,x,y,z=>(Ez x).bind fun t=>(J6 y).bind fun p=>(J6 z).bind fun q=>cond (Nat.ble p q && (Nat.ble q t.length && Nat.ble t.length 50000)) (CM (rx.syn t p q)) none
noncomputable def Pm(_:P4)(x y z w:Val):Option Val:=
 (Ez x).bind fun t=>(Ez y).bind fun u=>(J6 z).bind fun a=>(Fb w).bind fun b=>some (.int (A4 u t a (clip t.length b)))
noncomputable def truth:Val→Option Bool
 | .none=>some false
 | .bool b=>some b
 | .int i=>some !(FJ i 0)
 | .mt _ _=>some true
 |_=>none
mutual
inductive E where
 |lit (v:Val) |glob (i:Nat) (v:Val) |loc (k:Nat) |sat (k:Nat)
 |p1 (p:P1) (a:E) |p2 (p:P2) (a b:E) |p3 (p:P3) (a b c:E) |p4 (p:P4) (a b c d:E) |m3 (p:P3) (a b c:E)
 |bl (o:Bool) (es:Es) |not_ (a:E)
 |seq (t:Bool) (es:Es)
 |nlst (es:Es)
 |app (a:E)
 |push (f:Nat) (x:E)
 |apnd (l:Nat) (x:E)
 |fcall (f:Nat) (es:Es) |scall (f:Nat) (es:Es) |mcall (f j:Nat) (es:Es)
 |new (es:Es)
 |icall (f:Nat) (e:E)
 |wal (k:Nat) (e:E)
 |ntp
 |tapp (a x:E)
 |rvt (a:E)
 |fld (j k:Nat)
 |comp (q:Nat) (src:E) (k:Nat)
 |lidx (a x:E)
 |isnt (i j:Nat)
inductive Es where
 |nil |cons (e:E) (es:Es)
end
inductive T where |loc (k:Nat) |sat (k:Nat)
inductive It where |of (e:E) |range1 (b:E)
mutual
inductive S where
 |asg (k:Nat) (e:E) |sasg (k:Nat) (e:E) |asgs (ts:List T) (e:E) |unp (ts:List T) (e:E) |unr (ts:List T) (e:E)
 |aug (k:Nat) (p:P2) (e:E)
 |ex (e:E) |if_ (t:E) (a b:Ss) |while_ (t:E) (b o:Ss)
 |for_ (ts:List T) (it:It) (b:Ss)
 |ret (e:E) |brk |cont |asrt (t:E)
 |rais (k:Nat)
inductive Ss where
 |nil |cons (s:S) (ss:Ss)
end
inductive Out where |next |brk |cont |ret (v:LV)
inductive AN where |user (a:Nat)
noncomputable def Ax{α:Type}:List (Option α)→Nat→Option α
 |[],_=>none
 |x::_,0=>x
 |_::r,k+1=>Ax r k
noncomputable def CE{α:Type}:List (Option α)→Nat→α→List (Option α)
 |[],_,_=>[]
 |_::r,0,v=>some v::r
 |x::r,k+1,v=>x::CE r k v
noncomputable def Fk:List (List Val)→Nat→Option (List Val)
 |[],_=>none
 |x::_,0=>some x
 |_::r,k+1=>Fk r k
noncomputable def oset:List (List Val)→Nat→List Val→List (List Val)
 |[],_,_=>[]
 |_::r,0,v=>v::r
 |x::r,k+1,v=>x::oset r k v
noncomputable def Il:List (List Val)→List Val→List (List Val)
 |[],v=>[v]
 |x::r,v=>x::Il r v
noncomputable def MI:List (List Val)→Nat
 |[]=>0
 |_::r=>MI r+1
noncomputable def St.BB(σ:St)(k:Nat)(v:LV):St:=⟨CE σ.loc k v,σ.own,σ.self,σ.heap⟩
noncomputable def St.SE(σ:St)(k:Nat)(v:LV):St:=⟨σ.loc,σ.own,CE σ.self k v,σ.heap⟩
noncomputable def St.SD(σ:St)(k:Nat)(v:List Val):St:=⟨σ.loc,oset σ.own k v,σ.self,σ.heap⟩
noncomputable def St.BA(σ:St)(h:List Cell):St:=⟨σ.loc,σ.own,σ.self,h⟩
noncomputable def look(o:List (List Val)):LV→Option Val
 | .v x=>some x
 | .loc k=>match Fk o k with |some xs=>some (.seq false xs) |none=>none
 | .app _=>none
 | .cb _ _=>none
noncomputable def GO(h:List Cell):Val→Option Val
 | .hl j=>match h[j]? with |some (.Ak xs)=>some (.seq false xs) |_=>none
 |x=>some x
noncomputable def Cf(σ:St)(l:LV):Option Val:=match look σ.own l with |some x=>GO σ.heap x |none=>none
noncomputable def Kp:List (Option LV)→Option (List (Option Val))
 |[]=>some []
 |none::r=>match Kp r with |some l=>some (none::l) |none=>none
 |some (.v x)::r=>match Kp r with |some l=>some (some x::l) |none=>none
 |some _::_=>none
noncomputable def B1:List (Option Val)→List (Option LV)
 |[]=>[]
 |none::r=>none::B1 r
 |some x::r=>some (.v x)::B1 r
noncomputable abbrev Ng:=Nat→List (Option Val)→List Val→List Cell→(Val→List (Option Val)→List Cell→Prop)→(AN→List (Option Val)→List Cell→Prop)→Prop
noncomputable def Be(b:Bool)(p q:Prop):Prop:=match b with |true=>p |false=>q
noncomputable def BP{α:Type}(o:Option α)(P:α→Prop):Prop:=match o with |some x=>P x |none=>False
theorem AL{b:Bool}{p q:Prop}(h:b=true)(hp:p):Be b p q:=by rw[h];exact hp
theorem BI{b:Bool}{p q:Prop}(h:b=false)(hp:q):Be b p q:=by rw[h];exact hp
theorem Bv{α:Type}{o:Option α}{x:α}{P:α→Prop}(h:o=some x)(hp:P x):BP o P:=by rw[h];exact hp
theorem Ad{α:Type}{o:Option α}{P:α→Prop}(h:BP o P):∃x,o=some x∧P x:=by
 induction o using zh with
 |none=>exact h.elim
 |some x=>exact⟨x,rfl,h⟩
structure Cfg where
 rx:Rx
 call:Ng
 init:Nat
 nf:Nat
noncomputable def Bz{α:Type}:Nat→List (Option α)
 |0=>[]
 |n+1=>none::Bz n
noncomputable def Ci:Val→Bool
 | .none=>true
 | .bool _=>true
 | .int _=>true
 | .str _=>true
 |_=>false
noncomputable def isAtom:Val→Bool
 | .str _=>true
 | .mt _ _=>true
 |_=>false
noncomputable def Cj:Val→Bool
 | .str _=>true
 |_=>false
noncomputable def Gh:Val→Bool
 | .none=>true
 |_=>false
noncomputable def Ra(h:List Cell)(d:Nat):Bool:=match h[d]? with |some (.Ao _)=>true |_=>false
noncomputable def Lf(h:List Cell)(d:Nat):Bool:=match h[d]? with |some (.Ak _)=>true |_=>false
section
variable (C:Cfg)(X:AN→St→Prop)
noncomputable def GN(K:Val→St→Prop)(l:LV)(σ:St):Prop:=BP (Cf σ l) fun x=>K x σ
noncomputable def val? :LV→Option Val
 | .v x=>some x
 |_=>none
noncomputable def Bp(K:Val→St→Prop)(l:LV)(σ:St):Prop:=BP (val? l) fun x=>K x σ
noncomputable def MM(K:LV→St→Prop)(o:Option Val)(σ:St):Prop:=BP o fun x=>K (.v x) σ
noncomputable def kv(K:Bool→St→Prop)(x:Val)(σ:St):Prop:=BP (truth x) fun b=>K b σ
noncomputable def Eg(K:Bool→St→Prop)(l:LV)(σ:St):Prop:=GN (kv K) l σ
inductive P5(K:LV→St→Prop)(xs:List Val)(v:Val)(σ:St):Prop
 |mk (h:∃j stop e bar p ys,xs=[.hl j,.int stop,e,.seq false bar]∧v=.int p∧σ.heap[j]? =some (.Ak ys)∧ys.length < AJ∧
  ((ltI stop (.ofNat (ys.length+1))=true∧∃a,e=.exc a∧X (.user a) (σ.BA (σ.heap.set j (.Ak (ys++[.int p])))))∨
   (ltI stop (.ofNat (ys.length+1))=false∧∃b,CJ p bar=some b∧K (.v (.bool b)) (σ.BA (σ.heap.set j (.Ak (ys++[.int p])))))))
noncomputable def Ld(x:Int):List Val→Nat
 | .int y::r=>cond (FJ y x) 0 (Ld x r+1)
 |_=>0
noncomputable def Ex:List Val→Bool
 |[]=>true
 | .int (.ofNat n)::r=>cond (Nat.blt n AJ) (Ex r) false
 |_::_=>false
noncomputable def kQ :Val→Option Nat
 | .hl j=>some j
 |_=>none
noncomputable def SY :Option Cell→Option (List Val)
 |some (.Ak xs)=>some xs
 |_=>none
noncomputable def Dw(g:Val→Option (Option Val)):List Val→Option (List Val)
 |[]=>some []
 |x::r=>(g x).bind fun o=>(Dw g r).bind fun l=>some (o.toList++l)
noncomputable def EP(h:List Cell)(x:Val):Option (Option Val):=(kQ x).bind fun j=>(SY h[j]?).bind fun xs=>some xs.head?
noncomputable def HG(p:Int→Option Bool)(x:Val):Option (Option Val):=(Fb x).bind fun i=>(p i).bind fun b=>some (cond b (some (.int i)) none)
noncomputable def KR(h:List Cell)(q:Nat)(b:Val)(xs:List Val):Option (List Val):=match q with
 |0=>Dw (EP h) xs
 |1=>(Fe b).bind fun bs=>Dw (HG fun x=>(CJ x bs).bind fun r=>some (!r)) xs
 |2=>(Fe b).bind fun bs=>bs.head?.bind fun v=>(Fb v).bind fun y=>Dw (HG fun x=>some (ltI y x)) xs
 |_=>none
mutual
noncomputable def B2:E→(LV→St→Prop)→St→Prop
 | .lit v,K,σ=>K (.v v) σ
 | .glob _ v,K,σ=>K (.v v) σ
 | .loc k,K,σ=>BP (Ax σ.loc k) fun v=>K v σ
 | .sat k,K,σ=>BP (Ax σ.self k) fun v=>K v σ
 | .p1 p a,K,σ=>B2 a (GN fun x σ=>MM K (Cb C.rx p x) σ) σ
 | .p2 p a b,K,σ=>B2 a (fun la σ=>B2 b (fun lb σ=>BP (Cf σ la) fun x=>BP (Cf σ lb) fun y=>MM K (Bu C.rx p x y) σ) σ) σ
 | .p3 p a b c,K,σ=>B2 a (fun la σ=>B2 b (fun lb σ=>B2 c (fun lc σ=>BP (Cf σ la) fun x=>BP (Cf σ lb) fun y=>BP (Cf σ lc) fun z=>MM K (Eu C.rx p x y z) σ) σ) σ) σ
 | .p4 p a b c d,K,σ=>B2 a (Bp fun x σ=>Be (Cj x) (B2 b (Bp fun y σ=>B2 c (Bp fun z σ=>B2 d (Bp fun u σ=>MM K (Pm p x y z u) σ) σ) σ) σ) False) σ
 | .m3 p a b c,K,σ=>B2 a (Bp fun x σ=>Be (Cj x) (B2 b (Bp fun y σ=>B2 c (Bp fun z σ=>MM K (Eu C.rx p x y z) σ) σ) σ) False) σ
 | .bl o es,K,σ=>kA o es K σ
 | .not_ a,K,σ=>B2 a (Eg fun t σ=>K (.v (.bool !t)) σ) σ
 | .seq t es,K,σ=>Kw es (fun vs σ=>K (.v (.seq t vs)) σ) σ
 | .nlst es,K,σ=>Kw es (fun vs σ=>K (.loc (MI σ.own)) ⟨σ.loc,Il σ.own vs,σ.self,σ.heap⟩) σ
 | .app a,K,σ=>B2 a (fun l σ=>match l with | .loc k=>K (.app k) σ |_=>False) σ
 | .push f x,K,σ=>BP (Ax σ.loc f) fun l=>match l with
   | .app k=>B2 x (Bp fun v σ=>BP (Fk σ.own k) fun xs=>Be (Nat.blt xs.length AJ) (K (.v .none) (σ.SD k (xs++[v]))) False) σ
   |_=>False
 | .apnd f x,K,σ=>BP (Ax σ.loc f) fun l=>match l with
   | .loc k=>B2 x (Bp fun v σ=>BP (Fk σ.own k) fun xs=>Be (Nat.blt xs.length AJ) (K (.v .none) (σ.SD k (xs++[v]))) False) σ
   |_=>False
 | .fcall f es,K,σ=>Kw es (fun vs σ=>C.call f [] vs σ.heap (fun r _ h=>K (.v r) (σ.BA h)) (fun x _ h=>X x (σ.BA h))) σ
 | .scall f es,K,σ=>Kw es (fun vs σ=>BP (Kp σ.self) fun fs=>
   C.call f fs vs σ.heap (fun r fs' h=>K (.v r) ⟨σ.loc,σ.own,B1 fs',h⟩) (fun _ _ _=>False)) σ
 | .mcall f j es,K,σ=>BP (Ax σ.loc j) (fun l=>Bp (fun ov σ=>match ov with
   | .obj d=>Be (Ra σ.heap d) (Kw es (fun vs σ=>match σ.heap[d]? with
    |some (.Ao fs)=>C.call f fs vs (σ.heap.set d .taken) (fun r fs' h=>K (.v r) (σ.BA (h.set d (.Ao fs')))) (fun _ _ _=>False)
    |_=>False) σ) False
   |_=>False) l σ)
 | .new es,K,σ=>Kw es (fun vs σ=>C.call C.init (Bz C.nf) vs (σ.heap++[.taken])
   (fun r fs' h=>Be (Gh r) (K (.v (.obj σ.heap.length)) (σ.BA (h.set σ.heap.length (.Ao fs')))) False) (fun _ _ _=>False)) σ
 | .icall f e,K,σ=>BP (Ax σ.loc f) fun l=>match l with
   | .cb k xs=>Be (Nat.beq k 6) (B2 e (Bp fun v σ=>P5 X K xs v σ) σ) False
   |_=>False
 | .wal k e,K,σ=>B2 e (fun l σ=>K l (σ.BB k l)) σ
 | .ntp,K,σ=>K (.v (.hl σ.heap.length)) (σ.BA (σ.heap++[.Ak []]))
 | .tapp a x,K,σ=>B2 a (Bp fun t σ=>match t with
   | .hl j=>Be (Lf σ.heap j) (B2 x (Bp fun v σ=>match σ.heap[j]? with
    |some (.Ak xs)=>Be (Nat.blt xs.length AJ) (K (.v .none) (σ.BA (σ.heap.set j (.Ak (xs++[v]))))) False
    |_=>False) σ) False
   |_=>False) σ
 | .fld j k,K,σ=>BP (Ax σ.loc j) fun l=>Bp (fun ov σ=>match ov with
   | .obj d=>(match σ.heap[d]? with
    |some (.Ao fs)=>BP (Ax fs k) fun v=>K (.v v) σ
    |_=>False)
   |_=>False) l σ
 | .rvt a,K,σ=>B2 a (GN fun v σ=>match v with
   | .seq false xs=>K (.v (.hl σ.heap.length)) (σ.BA (σ.heap++[.Ak xs.reverse]))
   |_=>False) σ
 | .comp q a k,K,σ=>B2 a (GN fun v σ=>match v with
   | .seq false xs=>BP (Ax σ.loc k) fun l=>Bp (fun b σ=>BP (KR σ.heap q b xs) fun ys=>K (.v (.seq false ys)) σ) l σ
   |_=>False) σ
 | .lidx a x,K,σ=>B2 a (Bp fun t σ=>match t with
   | .hl j=>Be (Lf σ.heap j) (B2 x (Bp fun y σ=>match σ.heap[j]? with
    |some (.Ak xs)=>(match y with
     | .int i=>Be (Nat.ble xs.length 1000 && Ex xs) (BP (CJ i xs) fun b=>Be b (K (.v (.int (.ofNat (Ld i xs)))) σ) False) False
     |_=>False)
    |_=>False) σ) False
   |_=>False) σ
 | .isnt i j,K,σ=>BP (Ax σ.loc i) fun l=>BP (Ax σ.loc j) fun l'=>Bp (fun a σ=>Bp (fun b σ=>match a with
   | .ad x=>(match b with | .ad y=>Be (Nat.beq x y) (K (.v (.bool false)) σ) False |_=>False)
   |_=>False) l' σ) l σ
noncomputable def Kz:E→(Bool→St→Prop)→St→Prop
 | .bl o es,K,σ=>kC o es K σ
 | .not_ a,K,σ=>Kz a (fun t σ=>K (!t) σ) σ
 | .loc k,K,σ=>BP (Ax σ.loc k) fun v=>Eg K v σ
 | .p1 p a,K,σ=>B2 a (GN fun x σ=>BP (Cb C.rx p x) fun v=>Eg K (.v v) σ) σ
 | .p2 p a b,K,σ=>B2 a (fun la σ=>B2 b (fun lb σ=>BP (Cf σ la) fun x=>BP (Cf σ lb) fun y=>BP (Bu C.rx p x y) fun v=>Eg K (.v v) σ) σ) σ
 | .icall f e,K,σ=>BP (Ax σ.loc f) fun l=>match l with
   | .cb k xs=>Be (Nat.beq k 6) (B2 e (Bp fun v σ=>P5 X (Eg K) xs v σ) σ) False
   |_=>False
 | .wal k e,K,σ=>B2 e (fun l σ=>Eg K l (σ.BB k l)) σ
 | .isnt i j,K,σ=>BP (Ax σ.loc i) fun l=>BP (Ax σ.loc j) fun l'=>Bp (fun a σ=>Bp (fun b σ=>match a with
   | .ad x=>(match b with | .ad y=>Be (Nat.beq x y) (Eg K (.v (.bool false)) σ) False |_=>False)
   |_=>False) l' σ) l σ
 |_,_,_=>False
noncomputable def Kw:Es→(List Val→St→Prop)→St→Prop
 | .nil,K,σ=>K [] σ
 | .cons e es,K,σ=>B2 e (Bp fun x σ=>Kw es (fun xs σ=>K (x::xs) σ) σ) σ
noncomputable def kA:Bool→Es→(LV→St→Prop)→St→Prop
 |_,.nil,_,_=>False
 |o,.cons e es,K,σ=>match es with
  | .nil=>B2 e K σ
  |_=>B2 e (fun l σ=>Eg (fun t σ=>match o with |true=>Be t (kA o es K σ) (K l σ) |false=>Be t (K l σ) (kA o es K σ)) l σ) σ
noncomputable def kC:Bool→Es→(Bool→St→Prop)→St→Prop
 |_,.nil,_,_=>False
 |o,.cons e es,K,σ=>match es with
  | .nil=>Kz e K σ
  |_=>Kz e (fun t σ=>match o with |true=>Be t (kC o es K σ) (K false σ) |false=>Be t (K true σ) (kC o es K σ)) σ
end
noncomputable def GQ(T:(Bool→St→Prop)→St→Prop)(B:(Out→St→Prop)→St→Prop)(O:(Out→St→Prop)→St→Prop)(Q:Out→St→Prop):Nat→St→Prop
 |0,_=>False
 |n+1,σ=>T (fun b σ=>Be b (B (fun o σ=>match o with
   | .next=>GQ T B O Q n σ | .cont=>GQ T B O Q n σ | .brk=>Q .next σ | .ret v=>Q (.ret v) σ) σ) (O Q σ)) σ
noncomputable def bJ(T:(Bool→St→Prop)→St→Prop)(B:(Out→St→Prop)→St→Prop)(O:(Out→St→Prop)→St→Prop)(Q:Out→St→Prop)(σ:St):Prop:=∃n,GQ T B O Q n σ
noncomputable def stores:List T→List LV→St→Option St
 |[],[],σ=>some σ
 | .loc k::ts,v::vs,σ=>stores ts vs (σ.BB k v)
 | .sat k::ts,v::vs,σ=>stores ts vs (σ.SE k v)
 |_,_,_=>none
noncomputable def storeAll(v:LV):List T→St→St
 |[],σ=>σ
 | .loc k::ts,σ=>storeAll v ts (σ.BB k v)
 | .sat k::ts,σ=>storeAll v ts (σ.SE k v)
noncomputable def Yo:List Val→List LV
 |[]=>[]
 |x::r=>.v x::Yo r
noncomputable def forL(A:Val→St→Option St)(B:(Out→St→Prop)→St→Prop)(Q:Out→St→Prop):List Val→St→Prop
 |[],σ=>Q .next σ
 |x::xs,σ=>BP (A x σ) fun σ=>B (fun o σ=>match o with
   | .next=>forL A B Q xs σ | .cont=>forL A B Q xs σ | .brk=>Q .next σ | .ret v=>Q (.ret v) σ) σ
noncomputable def CW(ts:List T)(x:Val)(σ:St):Option St:=stores ts [.v x] σ
noncomputable def Er:Nat→Nat→List Val
 |_,0=>[]
 |a,n+1=>.int (.ofNat a)::Er (a+1) n
noncomputable def fD:It→(List Val→St→Prop)→St→Prop
 | .of e,K,σ=>B2 C X e (Bp fun v σ=>BP (Fe v) fun xs=>K xs σ) σ
 | .range1 b,K,σ=>B2 C X b (Bp fun y σ=>BP (J6 y) fun j=>Be (Nat.blt j AJ) (K (Er 0 j) σ) False) σ
mutual
noncomputable def mh:S→(Out→St→Prop)→St→Prop
 | .asg k e,Q,σ=>B2 C X e (fun v σ=>Q .next (σ.BB k v)) σ
 | .sasg k e,Q,σ=>B2 C X e (fun v σ=>Q .next (σ.SE k v)) σ
 | .asgs ts e,Q,σ=>B2 C X e (fun v σ=>Q .next (storeAll v ts σ)) σ
 | .unp ts e,Q,σ=>B2 C X e (Bp fun v σ=>match v with
   | .seq _ xs=>BP (stores ts (Yo xs) σ) fun σ=>Q .next σ
   |_=>False) σ
 | .unr ts e,Q,σ=>B2 C X e (Bp fun v σ=>match v with
   | .seq _ xs=>BP (stores ts.reverse (Yo xs.reverse) σ) fun σ=>Q .next σ
   |_=>False) σ
 | .aug k p e,Q,σ=>BP (Ax σ.loc k) fun l=>Bp (fun x σ=>Be (Cj x) (B2 C X e (Bp fun y σ=>BP (Bu C.rx p x y) fun v=>Q .next (σ.BB k (.v v))) σ) False) l σ
 | .ex e,Q,σ=>B2 C X e (Bp fun x σ=>Be (Ci x) (Q .next σ) False) σ
 | .if_ t a b,Q,σ=>Kz C X t (fun c σ=>Be c (Au a Q σ) (Au b Q σ)) σ
 | .while_ t b o,Q,σ=>bJ (Kz C X t) (Au b) (Au o) Q σ
 | .for_ ts it b,Q,σ=>fD C X it (fun xs σ=>forL (CW ts) (Au b) Q xs σ) σ
 | .ret e,Q,σ=>B2 C X e (fun v σ=>Q (.ret v) σ) σ
 | .brk,Q,σ=>Q .brk σ
 | .cont,Q,σ=>Q .cont σ
 | .asrt t,Q,σ=>Kz C X t (fun c σ=>Be c (Q .next σ) False) σ
 | .rais k,_,σ=>BP (Ax σ.loc k) fun l=>Bp (fun v σ=>match v with
   | .exc a=>X (.user a) σ
   |_=>False) l σ
noncomputable def Au:Ss→(Out→St→Prop)→St→Prop
 | .nil,Q,σ=>Q .next σ
 | .cons s ss,Q,σ=>mh s (fun o σ=>match o with | .next=>Au ss Q σ |o=>Q o σ) σ
end
end
structure Fn where
 ar:Nat
 nloc:Nat
 body:Ss
noncomputable def start:List Val→Nat→List (Option LV)
 |[],n=>Bz n
 |x::r,n=>some (.v x)::start r n
noncomputable def fz(o:List (List Val)):List (Option LV)→Option (List (Option Val))
 |[]=>some []
 |none::r=>match fz o r with |some l=>some (none::l) |none=>none
 |some x::r=>match look o x,fz o r with |some y,some l=>some (some y::l) |_,_=>none
noncomputable def OL(K:Val→List (Option Val)→List Cell→Prop)(v:LV)(σ:St):Prop:=BP (look σ.own v) fun r=>BP (fz σ.own σ.self) fun fs=>K r fs σ.heap
noncomputable def Dv(X:AN→List (Option Val)→List Cell→Prop)(x:AN)(σ:St):Prop:=BP (fz σ.own σ.self) fun fs=>X x fs σ.heap
noncomputable def Ef(K:Val→List (Option Val)→List Cell→Prop)(o:Out)(σ:St):Prop:=match o with
 | .ret v=>OL K v σ
 | .next=>OL K (.v .none) σ
 |_=>False
structure Kx where
 rx:Rx
 fns:List Fn
 init:Nat
 nf:Nat
noncomputable def A8(P:Kx):Nat→Ng
 |0=>fun _ _ _ _ _ _=>False
 |d+1=>fun f fs vs h K X=>match P.fns[f]? with
  |some fn=>Be (Nat.beq vs.length fn.ar) (Au ⟨P.rx,A8 P d,P.init,P.nf⟩ (Dv X) fn.body (Ef K) ⟨start vs fn.nloc,[],B1 fs,h⟩) False
  |none=>match P.fns[f - 2000]?,vs with
   |some fn,.int (.ofNat k)::xs=>Be (Nat.beq 1 fn.ar) (Au ⟨P.rx,A8 P d,P.init,P.nf⟩ (Dv X) fn.body (Ef K) ⟨some (.cb k xs)::Bz fn.nloc,[],B1 fs,h⟩) False
   |_,_=>False
theorem condT{b x:Bool}(h:cond b x false=true):b=true∧x=true:=by
 induction b using za with
 |true=>exact⟨rfl,h⟩
 |false=>exact Bool.noConfusion h
theorem Gl{x:Txt}:∀{t:Txt},pre? x t=true↔t.take x.length=x:=by
 induction x with
 |nil=>exact⟨fun _=>rfl,fun _=>rfl⟩
 |cons a x ih=>
  intro t
  induction t using zo with
  |nil=>exact⟨fun h=>(nomatch h),fun h=>(nomatch h)⟩
  |cons b y=>
   refine⟨fun h=>?_,fun h=>?_⟩
   ·have q:=condT h
    show b::y.take x.length=a::x
    rw[zw q.1,ih.mp q.2]
   ·have e:=jx h
    show cond (Nat.beq a b) (pre? x y) false=true
    rw[e.1,jA];exact ih.mpr e.2
theorem N7{x:Txt}:∀{t:Txt},pre? x t=true→x.length≤t.length:=fun h=>by
 have e:=zy List.length (Gl.mp h)
 rw[ji]at e
 rw[←e];exact Nat.min_le_right _ _
theorem pre_app{w s:Txt}(h:pre? w s=true):∃r,s=w++r:=
 ⟨s.drop w.length,(List.take_append_drop w.length s).symm.trans (zy (· ++s.drop w.length) (Gl.mp h))⟩
theorem nz{α:Type}{P:Prop}{v:α}(h:none=some v):P:=nomatch h
theorem ft{P:Prop}(h:false=true):P:=nomatch h
theorem Ac{a b:Bool}(h:(a && b)=true):a=true∧b=true:=zH.mp h
theorem AO{α:Type}{b:Bool}{x y:α}(h:cond b (some x) none=some y):b=true∧x=y:=by
 induction b using za with
 |true=>exact⟨rfl,ze h⟩
 |false=>exact nz h
theorem Np{α β:Type}{o:Option α}{f:α→Option β}{v:β}(h:o.bind f=some v):∃a,o=some a∧f a=some v:=Option.bind_eq_some_iff.mp h
section
variable {x y v:Val}{α:Type}{u:α}
theorem bI{f:Int→Option α}(h:(Fb x).bind f=some u):∃i,x=.int i∧f i=some u:=by
 induction x using Val.casesOn with
 |int i=>exact⟨i,rfl,h⟩
 |_=>exact nz h
theorem bB{f:Bool→Option α}(h:(Wi x).bind f=some u):∃i,x=.bool i∧f i=some u:=by
 induction x using Val.casesOn with
 |bool i=>exact⟨i,rfl,h⟩
 |_=>exact nz h
theorem b0{f:Unit→Option α}(h:(WA x).bind f=some u):x=.none∧f ()=some u:=by
 induction x using Val.casesOn with
 |none=>exact⟨rfl,h⟩
 |_=>exact nz h
theorem bS{f:Txt→Option α}(h:(Ez x).bind f=some u):∃t,x=.str t∧f t=some u:=by
 induction x using Val.casesOn with
 |str t=>exact⟨t,rfl,h⟩
 |_=>exact nz h
theorem bL{f:List Val→Option α}(h:(Fe x).bind f=some u):∃t,x=.seq false t∧f t=some u:=by
 induction x using Val.casesOn with
 |seq b t=>induction b using za with
  |true=>exact nz h
  |false=>exact⟨t,rfl,h⟩
 |_=>exact nz h
theorem bH{f:Nat→Option α}(h:(kQ x).bind f=some u):∃j,x=.hl j∧f j=some u:=by
 induction x using Val.casesOn with
 |hl j=>exact⟨j,rfl,h⟩
 |_=>exact nz h
theorem bT{o:Option Cell}{f:List Val→Option α}(h:(SY o).bind f=some u):∃xs,o=some (.Ak xs)∧f xs=some u:=by
 induction o using zh with
 |none=>exact nz h
 |some ce=>induction ce using Cell.casesOn with
  |Ak xs=>exact⟨xs,rfl,h⟩
  |_=>exact nz h
theorem NZ{i:Int}{n:Nat}(h:RD i=some n):i=.ofNat n:=by
 induction i using jV with
 |ofNat m=>exact zy Int.ofNat (ze h)
 |negSucc _=>exact nz h
theorem R9{i:Int}{n:Nat}(h:(RD i).bind YT=some n):i=.ofNat (n+1):=Aa (Np h) fun m a b=>by
 rw[NZ a]
 induction m using zz with
 |zero=>exact nz b
 |succ m=>exact zy (fun n=>Int.ofNat (n+1)) (ze b)
theorem RE{n:Nat}(h:J6 x=some n):x=.int (.ofNat n):=Aa (bI h) fun i e q=>e.trans (zy Val.int (NZ q))
theorem bN{f:Nat→Option α}(h:(J6 x).bind f=some u):∃n,x=.int (.ofNat n)∧f n=some u:=
 Aa (Np h) fun n a b=>⟨n,RE a,b⟩
theorem fP{k:Int→Int→Option Val}(h:FL k x y=some v):∃i j,x=.int i∧y=.int j∧k i j=some v:=Aa (bI h) fun i e h=>Aa (bI h) fun j e' h=>⟨i,j,e,e',h⟩
theorem Yn{xs:List Val}(h:Fe x=some xs):x=.seq false xs:=Aa (bL (f:=some) (by rw[h];rfl)) fun t e h=>e.trans (zy (Val.seq false) (ze h))
end
noncomputable def AllP(P:Nat→Prop)(n:Nat):Prop:=Nat.rec True (fun n ih=>ih∧P n) n
theorem PY{P:Nat→Prop}{n:Nat}:AllP P n→∀k,k < n→P k:=by
 induction n with
 |zero=>exact fun _ k h=>absurd h (jy k)
 |succ n ih=>exact fun h k hk=>(Nat.eq_or_lt_of_le (Je hk)).elim (fun e=>e▸h.2) fun l=>ih h.1 k l
end
end Ag
section
open PySem PySem.W PySem.Calls PyProof.Rows
namespace Ag.NG
section
set_option maxHeartbeats 1000000
def Good(c:ClaimW)(cl:Str→Option Addr)(mean:ExcName→Option Value)(args:List WData)(s₁:Shared)(r:Result)(s':Shared):Prop:=GoodWG c cl mean args s₁ r s'∧s'.gens= #[]
theorem ends{c:ClaimW}{s₀ s₁ s':Shared}{args:List WData}{vs:List Value}{as:List Addr}{r:Result}(hsame:c.same=none)(hwi:c.within=[])(hi:∀a b,c.ident a b=true)
  (hrd:ReadsAllW c.records (classAt s₀.heap) s₁.heap vs args as) (hold:∀a∈as,∃o,s₁.heap.get? a=some o) (hos:s₁.os=s₀.os)
  (g:Good c (classAt s₀.heap) (ExcName.means s₀.heap) args {s₁ with gens:= #[]} r s'):c.Ends s₀ args vs s₁ r s'∧s'.os=s₀.os∧s'.gens= #[]:=by
 obtain⟨⟨k,K,o,_⟩,g⟩:=g
 refine⟨?_,o.trans hos,g⟩
 rcases k with⟨v,d,bs,rfl,n,hv,hp,hu⟩ |⟨e,ob,cls,rfl,he,hc,hp,hn⟩
 ·refine .inl ⟨v,rfl,n,⟨d,args,bs,as,hv,hrd.keepsK fun b o e hc=>K.get_of_cls e hc,hp,fun q=>⟨(hu q).1,(hu q).2,fun a ha hb=>?_⟩,fun _ _=>hi _ _⟩,fun i e=>(nomatch hsame.symm.trans e),fun b o e _ _=>K.old b o e,fun i e=>?_⟩
  ·obtain⟨o,ho⟩:=hold a hb
   exact nomatch ((hu q).2 a ha).symm.trans ho
  ·rw[hwi]at e;exact nomatch e
 ·exact .inr ⟨e,ob,cls,rfl,he,hc,hp,hn,fun b o e=>K.old b o e⟩
abbrev Walk(q:Program)(loose:List Str)(XP:(Str→Option Value)→Heap→Prop)(YP:World→Heap→Prop)(r:RowW)(d:DefRec)(kwd:List (Str×Expr))(run:Value→List Value→Sem Value):Prop:=
 ∀(w:World) (s₀ s₁:Shared) (mg mb:Str→Option Value),Ground q loose r.records XP w s₀ mg mb s₁.heap→YP w s₁.heap→∀(a:Addr) (o:Obj) (pm cd doc dV kV:Value),s₁.heap.get? a=some o→
  o.data=.func {docDef d.name d.params d.body d.scope pm cd doc with defaults:=dV,kwdefaults:=kV}→s₁.heap.CodeRec cd d.name→Dflts mg s₁.heap d.params kwd dV kV→mg d.name=some (.ref a)→s₁.gens= #[]→
  ∀(args:List WData) (vals:List Value) (as:List Addr),r.claim.pre args=true→WData.layableAll args=true→ReadsAllW r.records (classAt s₀.heap) s₁.heap vals args as→WellAll w.params s₁.heap vals args→(∀a∈as,(a==sysModules)=false)→
   wpAny (model r.prog w) callerA (run (.ref a) vals) (fun v s'=>Good r.claim (classAt s₀.heap) (ExcName.means s₀.heap) args s₁ (.ok (.ret v)) s')
    (fun e s'=>Good r.claim (classAt s₀.heap) (ExcName.means s₀.heap) args s₁ (.error e) s') s₁
theorem TC{b:Bool}{x n:Str}(h:n∈(if b then[x]else[])):n=x:=by
 cases b with
 |true=>exact zG.mp h
 |false=>exact nomatch h
theorem holds{r:OpenRow}{q:Program}{loose:List Str}{Xt:Shared→Bool}{XP:(Str→Option Value)→Heap→Prop}{α:Type}{Yf:Shared→α}{Ya:World→α}{YP:World→Heap→Prop}{d:DefRec}{kwd:List (Str×Expr)}{N:Nat}
  (left:LeftO r.prog q loose Xt Yf Ya N false) (hY:∀w s,Yf s=Ya w→YP w s.heap) (hYk:∀w h h',YP w h→(∀b o,h.get? b=some o→h'.get? b=some o)→YP w h')
  (hX:∀s,Xt s=true→XP (s.heap.nsMap mainGlobals) s.heap) (hXk:∀mg h h',XP mg h→(∀b o,h.get? b=some o→h'.get? b=some o)→XP mg h')
  (hdef:defOf q r.name=some (d,kwd)) (hp:r.prog.theDef r.name=some (d.params,d.body,d.scope)) (hk:kwWritten? d.params.kwonlyargs d.params.kw_defaults=some kwd) (hRf:∀s,Xt s=true→RecFacts r.records s.heap) (hwr:(!r.writes || r.records.isEmpty)=true)
  (k1:r.wellSaid=true) (ok:(chainsOk q && opensWell r.prog && (frees r.toRowW && r.within.isEmpty))=true) (hb:r.prog.bare) (hw:r.toRowW.promised)
  (call:Walk q loose XP YP r.toRowW d kwd fun f vs=>PySem.call f vs):r.Holds:=by
 refine Aw (zH.mp ok) fun ok k5=>Aw (zH.mp ok) fun hch o1=>Aw (zH.mp k5) fun k5 k6=>V7 (frees_parts k5) fun hsame hu ha hap hm=>?_
 refine⟨k1,hw,⟨hb,o1,by show r.makers.map _=[];rw[hm];rfl⟩,hw.witness,fun w=>⟨(left.behind hX hch w).1,fun s' hs'=>?_⟩⟩
 refine BZ ((left.behind (XP:=fun mg h=>XP mg h∧RecFacts r.records h) (fun s hs=>⟨hX s hs,hRf s hs⟩) hch w).2 s' hs') fun s₀ hf hg0 h=>zg h fun s h=>Z9 h fun hT hz hgens hg G00 y=>?_
 have G0:Ground q loose [] XP w s (s.heap.nsMap mainGlobals) (s.heap.nsMap builtinsNs) s.heap:=⟨G00.T,G00.B,G00.D,G00.TE,G00.TD,G00.W,G00.X.1,G00.cls,G00.has,G00.apart,G00.once,G00.K⟩
 have RF:=G00.X.2
 have hT':=hT
 refine⟨s₀,hf,hg0,s,hT,fun n hn=>?_,RF.1,RF.2.1,?_⟩
 ·rw[TC hn]
  exact pinned_of_view hg G0 hdef hp hk
 have hgens:leftWithCleanup s.gens=false:=by simpa using hgens
 have G:Ground q loose r.records XP w s _ _ s.heap:=RF.ground G0
 refine ClaimW.callFrom_of_specN (c:=r.toRowW.claim) hz hgens fun args hpre hlay ord hord=>?_
 obtain⟨⟨vs,s₁⟩,hlaid⟩:=Jr.mp (layAllW_isSome (P:=w.params) (ord:=ord) G.has args r.args s (pre_splitW hpre).1)
 have keeps:=layAllW_keeps _ _ _ hlaid
 have hal:=layAllW_rest _ _ _ hlaid
 refine BZ (reads_layAllW hord _ _ _ hlaid hlay s₁.heap (fun _ _ e=>e)) fun as hrd hin hold=>?_
 have G₁:=G.keeps hXk keeps
 have hi:=ident_freeW hu ha hap
 have hwi:r.toRowW.claim.within=[]:=Jo.mp k6
 refine DT (G₁.fn hdef) fun a o pm cd doc h=>fE h fun dV kV h1 h2 h3 h4 h5=>?_
 have h:=call w s {s₁ with gens:= #[]} _ _ G₁ (hYk _ _ _ (hY w s y) keeps) a o pm cd doc dV kV h2 h3 h4 h5 (defOf_name hdef▸h1) rfl args vs as hpre hlay hrd (well_layAllW hord args s _ hlaid _ fun _ _ e=>e)
  (fun a ha=>jd.mpr fun e=>by have:=(hin.2.2 a ha).1;subst e;exact absurd G.low (Nat.not_lt.mpr this))
 refine⟨vs,s₁,hlaid,zj (wpAny_nsGet G₁.T.g ?_)⟩
 rw[h1]
 refine zj (zW h (fun v s' g=>zF ⟨_,rfl,?_⟩) fun e s' g=>?_)
 ·have z:=ends (c:=r.toRowW.claim) hsame hwi hi hrd hold hal.2.2.1 g
  exact⟨z.1,z.2.1,z.2.2,fun q=>⟨namesKept_of hT' hg r.keeps keeps g.1.2.1.old,noTable hwr q⟩⟩
 ·have z:=ends (c:=r.toRowW.claim) hsame hwi hi hrd hold hal.2.2.1 g
  exact⟨z.1,z.2.1,z.2.2,fun q=>⟨namesKept_of hT' hg r.keeps keeps g.1.2.1.old,noTable hwr q⟩⟩
theorem enter{M:Model}{A:Around}{s:Shared}{f:Value}{pos:List Value}{kw:List (Str×Value)}{c:ClaimW}{cl:Str→Option Addr}{mean:ExcName→Option Value}{args:List WData}{s₁:Shared}{tabs:List (Addr×Addr)}(hT:TabsAt tabs s₁.heap)
  (hr:∀a x,c.raises a x=false)
  (h:codeAny M A (.call f ⟨pos,kw⟩) (fun r s'=>GoodW c cl mean args {s₁ with heap:=ghostOf s₁.heap tabs} r s'∧GrownAll tabs s'.heap) s):wpAny M A (PySem.call f pos kw) (fun v s'=>Good c cl mean args s₁ (.ok (.ret v)) s') (fun e s'=>Good c cl mean args s₁ (.error e) s') s:=by
 refine Jg (codeAny_mono h fun res s' ⟨⟨hc,hk,hos,hg⟩,gr⟩=>?_)
 have keep:∀b o,b∉tabs.map (·.2)→s₁.heap.get? b=some o→s'.heap.get? b=some o:=fun b o hb e=>hk b o (ghost_ne e hb)
 have grown:∀b o,b∈tabs.map (·.2)→s₁.heap.get? b=some o→isCodeTable s₁.heap b∧o=tabObj #[]∧∃ps,s'.heap.get? b=some (tabObj ps):=fun b o hb e=>by
  obtain⟨q,hq,rfl⟩:=zA.mp hb
  exact⟨((hT q hq).1.tab (hT q hq).2).isCodeTable,ze (e.symm.trans (hT q hq).2),gr.get q hq⟩
 have K:OldK s₁.heap s'.heap:=by
  refine⟨fun b o e=>?_,fun b o e=>?_⟩ <;>by_cases hb:b∈tabs.map (·.2)
  ·obtain⟨ht,rfl,ps,hP⟩:=grown b o hb e
   exact .inr (.inl ⟨ht,rfl,#[],ps,rfl,by rw[Array.empty_append];exact hP⟩)
  ·exact .inl (keep b o hb e)
  ·obtain⟨_,_,ps,hP⟩:=grown b o hb e
   exact⟨_,hP⟩
  ·exact⟨o,keep b o hb e⟩
 rcases hc with⟨v,d,as,rfl,r2,r3,r4,r5⟩ |⟨e,ob,x,_,_,_,r4,_⟩
 ·refine⟨⟨.inl ⟨v,d,as,rfl,r2,r3,r4,fun q=>⟨(r5 q).1,fun a ha=>?_⟩⟩,K,hos,.of_eq hg⟩,hg⟩
  cases q1:s₁.heap.get? a with
  |none=>rfl
  |some o=>
   by_cases hb:a∈tabs.map (·.2)
   ·obtain⟨_,_,ps,hP⟩:=grown a o hb q1
    exact absurd ha (readsW_apart hP rfl r3)
   ·exact nomatch ((r5 q).2 a ha).symm.trans (show(ghostOf s₁.heap tabs).get? a=some o from ghost_ne q1 hb)
 ·exact nomatch (hr _ _).symm.trans r4
end
end Ag.NG
namespace Hd
section
set_option maxHeartbeats 400000
open PySem.W.Fast
noncomputable def dL:DefRec:=⟨Str.ofString "law",fA (sT 16),fB (sT 16),fS (sT 16),⟨184,0,231,42⟩⟩
theorem kb:PySem.Challenge.rw_km0029_05.wellSaid=true:=by
 rw[te9446332074065402090];kernel_rfl
theorem gJ:defOf q (Str.ofString "law")=some (dL,[]):=by kernel_rfl
theorem ko:pg.theDef (Str.ofString "law")=some (dL.params,dL.body,dL.scope):=by kernel_rfl
theorem mG:kwWritten? dL.params.kwonlyargs dL.params.kw_defaults=some []:=by kernel_rfl
theorem mQ:(chainsOk q && opensWell pg && (frees gu && gu.within.isEmpty))=true:=by kernel_rfl
theorem whole:pg.tablesWhole=true:=by kernel_rfl
theorem hd(h:Ag.NG.Walk q loose (XL q []) (kmHook kf Ws Ig [256]).says gu dL [] fun f vs=>PySem.call f vs):PySem.Challenge.rw_km0029_05.Holds:=by
 refine holds_law kb fun k1=>?_
 refine Ag.NG.holds (q:=q) (loose:=loose) (Xt:=Xt) (XP:=XL q []) (YP:=(kmHook kf Ws Ig [256]).says) (d:=dL) (kwd:=[]) (N:=20000) left (kmHook kf Ws Ig [256]).of (kmHook kf Ws Ig [256]).keeps (fun s e=>xl_of s (zH.mp e).1) XL.keeps gJ ko mG (fun s e=>recFacts_of (zH.mp e).2) rfl k1 mQ ⟨rfl,rfl,rfl,rfl,rfl,whole⟩ ?_ h
 exact⟨[.list []],by decide+kernel,by decide+kernel⟩
end
end Hd
namespace Ag
section
structure Rec where
 ρ:List Addr
 ω:List Addr
 zs:List (Addr×Obj)
 ex:List (Addr×Obj)
 sd:Option (Addr×Addr)
structure Rec.le(R R':Rec):Prop where
 ρ:∃t,R'.ρ=R.ρ++t
 ω:∃t,R'.ω=R.ω++t
 zs:∀p∈R.zs,p∈R'.zs
 ex:R'.ex=R.ex
 sd:R'.sd=R.sd
theorem Rec.le.refl(R:Rec):R.le R:=⟨⟨[],(zE _).symm⟩,⟨[],(zE _).symm⟩,fun _ h=>h,rfl,rfl⟩
theorem Rec.le.trans{R R' R'':Rec}(a:R.le R')(b:R'.le R''):R.le R'':=by
 refine zg a.ρ fun t h1=>?_;refine zg b.ρ fun t' h2=>?_;refine zg a.ω fun u h3=>?_;refine zg b.ω fun u' h4=>?_
 exact⟨⟨t++t',by rw[h2,h1,zl]⟩,⟨u++u',by rw[h4,h3,zl]⟩,fun p h=>b.zs p (a.zs p h),b.ex.trans a.ex,b.sd.trans a.sd⟩
noncomputable def kindS:Bool→String
 |true=>"tuple"
 |false=>"list"
noncomputable abbrev seqObj(tup:Bool)(vs:List Value)(n:Nat):Obj:={cls:=.type (kindS tup),data:=.seq vs.toArray n}
noncomputable abbrev EW(st pat:Value)(p l i:Int)(tp:Addr):Obj:={cls:=.type "re.Match",data:=.fields #[st,pat,rawInt p,rawInt l,rawInt i,.ref tp]}
noncomputable abbrev E5(a:Addr):Obj:={cls:=.type "builtin_function_or_method",data:=.fields #[.builtin "list.append",.ref a]}
noncomputable def Hr(Z:Addr→Obj→Prop)(a:Addr)(tup:Bool)(vs:List Value)(n:Nat):Prop:=∃o,Z a o∧o.cls=.type (kindS tup)∧o.data=.seq vs.toArray n
theorem Hr.of{Z:Addr→Obj→Prop}{a:Addr}{tup:Bool}{vs:List Value}{n:Nat}(h:Z a (seqObj tup vs n)):Hr Z a tup vs n:=⟨_,h,rfl,rfl⟩
theorem Hr.mono{Z Z':Addr→Obj→Prop}(hz:∀a o,Z a o→Z' a o){a:Addr}{tup:Bool}{vs:List Value}{n:Nat}(h:Hr Z a tup vs n):Hr Z' a tup vs n:=let⟨o,x,y⟩:=h;⟨o,hz _ _ x,y⟩
structure Hq(X:String):Prop where
 F:ExcRaiseFacts X
 E:isSubtype (.type X) (.type "Exception")=pure true
inductive CR(o:Obj):Prop
 |mk (X:String) (vs:Array Value) (hT:Hq X) (hc:o.cls=.type X) (hd:o.data=.fields vs) (h1:vs[1]? =some .none):CR o
mutual
inductive VR(PC:Addr)(Z:Addr→Obj→Prop)(ρ:List Addr):Val→Value→Prop
 |none:VR PC Z ρ .none .none
 |bool (b:Bool):VR PC Z ρ (.bool b) (.bool b)
 |int (i:Int) (t:Tok):VR PC Z ρ (.int i) (.int i t)
 |str (x:Txt) (t:Tok) (h:x.length≤AJ):VR PC Z ρ (.str x) (.str ⟨x.toArray⟩ t)
 |seq {tup:Bool} {xs:List Val} {a:Addr} {vs:List Value} {n:Nat} (h:Hr Z a tup vs n) (hl:xs.length≤AJ) (hs:AU PC Z ρ xs vs):VR PC Z ρ (.seq tup xs) (.ref a)
 |obj {d:Nat} {x dx:Addr} (h:Z x (instObj PC dx)) (hd:ρ[d]? =some dx):VR PC Z ρ (.obj d) (.ref x)
 |mt {s e:Nat} {a tp:Addr} {st pat:Value} {p l i:Int} {n:Nat} (h:Z a (EW st pat p l i tp)) (ht:Z tp (seqObj true [rawInt s,rawInt e] n)):VR PC Z ρ (.mt s e) (.ref a)
 |hl {j:Nat} {a:Addr} (hd:ρ[j]? =some a):VR PC Z ρ (.hl j) (.ref a)
 |exc {a:Addr} {o:Obj} (h:Z a o) (ho:CR o):VR PC Z ρ (.exc a) (.ref a)
 |ad (a:Addr):VR PC Z ρ (.ad a) (.ref a)
inductive AU(PC:Addr)(Z:Addr→Obj→Prop)(ρ:List Addr):List Val→List Value→Prop
 |nil:AU PC Z ρ [] []
 |cons {x:Val} {v:Value} {xs:List Val} {vs:List Value} (h:VR PC Z ρ x v) (hs:AU PC Z ρ xs vs):AU PC Z ρ (x::xs) (v::vs)
end
noncomputable def kJ(PC:Addr)(Z:Addr→Obj→Prop)(ρ:List Addr):Val→Value→Prop
 | .none,v=>v=.none
 | .bool b,v=>v=.bool b
 | .int i,v=>∃t,v=.int i t
 | .str x,v=>∃t,x.length≤AJ∧v=.str ⟨x.toArray⟩ t
 | .seq tup xs,v=>∃a vs n,v=.ref a∧Hr Z a tup vs n∧xs.length≤AJ∧AU PC Z ρ xs vs
 | .obj d,v=>∃x dx,v=.ref x∧Z x (instObj PC dx)∧ρ[d]? =some dx
 | .mt s e,v=>∃a tp st pat p l i n,v=.ref a∧Z a (EW st pat p l i tp)∧Z tp (seqObj true [rawInt s,rawInt e] n)
 | .hl j,v=>∃a,v=.ref a∧ρ[j]? =some a
 | .exc a,v=>v=.ref a∧∃o,Z a o∧CR o
 | .ad a,v=>v=.ref a
theorem VR.inv{PC:Addr}{Z:Addr→Obj→Prop}{ρ:List Addr}{x:Val}{v:Value}(h:VR PC Z ρ x v):kJ PC Z ρ x v:=
 VR.casesOn (motive_1:=fun x v _=>kJ PC Z ρ x v) h rfl (fun _=>rfl) (fun _ t=>⟨t,rfl⟩) (fun _ t h=>⟨t,h,rfl⟩) (fun h hl hs=>⟨_,_,_,rfl,h,hl,hs⟩) (fun h hd=>⟨_,_,rfl,h,hd⟩) (fun h ht=>⟨_,_,_,_,_,_,_,_,rfl,h,ht⟩) (fun hd=>⟨_,rfl,hd⟩) (fun h ho=>⟨rfl,_,h,ho⟩) (fun _=>rfl)
noncomputable def aw(PC:Addr)(Z:Addr→Obj→Prop)(ρ:List Addr):List Val→List Value→Prop
 |[],vs=>vs=[]
 |x::xs,vs=>∃v ws,vs=v::ws∧VR PC Z ρ x v∧AU PC Z ρ xs ws
theorem AU.inv{PC:Addr}{Z:Addr→Obj→Prop}{ρ:List Addr}{xs:List Val}{vs:List Value}(h:AU PC Z ρ xs vs):aw PC Z ρ xs vs:=
 AU.casesOn (motive_2:=fun x v _=>aw PC Z ρ x v) h rfl fun h hs=>⟨_,_,rfl,h,hs⟩
theorem AU.A9{PC:Addr}{Z:Addr→Obj→Prop}{ρ:List Addr}{x:Val}{xs:List Val}{vs:List Value}(h:AU PC Z ρ (x::xs) vs):∃v ws,vs=v::ws∧VR PC Z ρ x v∧AU PC Z ρ xs ws:=h.inv
theorem AU.C7{PC:Addr}{Z:Addr→Obj→Prop}{ρ:List Addr}{vs:List Value}(h:AU PC Z ρ [] vs):vs=[]:=h.inv
theorem DY{l l':List Addr}(hr:∃t,l'=l++t){k:Nat}{a:Addr}(h:l[k]? =some a):l'[k]? =some a:=by
 refine zg hr fun t e=>?_
 rw[e,zJ (zn.mp h).1];exact h
theorem VR.mono{PC:Addr}{Z Z':Addr→Obj→Prop}{ρ ρ':List Addr}(hz:∀a o,Z a o→Z' a o)(hr:∃t,ρ'=ρ++t){x:Val}{v:Value}(h:VR PC Z ρ x v):VR PC Z' ρ' x v:=
 VR.rec (motive_1:=fun x v _=>VR PC Z' ρ' x v) (motive_2:=fun xs vs _=>AU PC Z' ρ' xs vs) .none (fun b=>.bool b) (fun i t=>.int i t) (fun x t h=>.str x t h) (fun h hl _ ih=>.seq (h.mono hz) hl ih)
  (fun h hd=>.obj (hz _ _ h) (DY hr hd)) (fun h ht=>.mt (hz _ _ h) (hz _ _ ht)) (fun hd=>.hl (DY hr hd)) (fun h ho=>.exc (hz _ _ h) ho) (fun a=>.ad a) .nil (fun _ _ a b=>.cons a b) h
section
variable {PC:Addr}{Z:Addr→Obj→Prop}{ρ:List Addr}{xs ys:List Val}{vs us:List Value}
theorem AU.mono{Z':Addr→Obj→Prop}{ρ':List Addr}(hz:∀a o,Z a o→Z' a o)(hr:∃t,ρ'=ρ++t):∀{vs},AU PC Z ρ xs vs→AU PC Z' ρ' xs vs:=by
 induction xs with
 |nil=>intro vs h;rw[AU.C7 h];exact .nil
 |cons x xs ih=>intro vs h;refine Aq (AU.A9 h) fun v ws e a b=>?_;rw[e];exact .cons (a.mono hz hr) (ih b)
theorem AU.length:∀{vs},AU PC Z ρ xs vs→vs.length=xs.length:=by
 induction xs with
 |nil=>intro vs h;rw[AU.C7 h];rfl
 |cons x xs ih=>intro vs h;refine Aq (AU.A9 h) fun v ws e a b=>?_;rw[e];exact zy (· +1) (ih b)
theorem AU.get:∀{vs:List Value} {k:Nat} {x:Val},AU PC Z ρ xs vs→xs[k]? =some x→∃v,vs[k]? =some v∧VR PC Z ρ x v:=by
 induction xs with
 |nil=>exact fun _ e=>nomatch (js.symm.trans e:none=some _)
 |cons y xs ih=>
  intro vs k x h e
  refine Aq (AU.A9 h) fun v ws e' a b=>?_
  rw[e']
  induction k using zz with
  |zero=>exact⟨v,rfl,ze e▸a⟩
  |succ k=>exact ih (vs:=ws) b e
theorem AU.append:∀{vs},AU PC Z ρ xs vs→AU PC Z ρ ys us→AU PC Z ρ (xs++ys) (vs++us):=by
 induction xs with
 |nil=>intro vs h h';rw[AU.C7 h];exact h'
 |cons x xs ih=>intro vs h h';refine Aq (AU.A9 h) fun v ws e a b=>?_;rw[e];exact .cons a (ih b h')
theorem AU.take:∀{vs:List Value} (k:Nat),AU PC Z ρ xs vs→AU PC Z ρ (xs.take k) (vs.take k):=by
 induction xs with
 |nil=>intro vs k h;rw[AU.C7 h];induction k using zz <;>exact .nil
 |cons x xs ih=>
  intro vs k h;refine Aq (AU.A9 h) fun v ws e a b=>?_;rw[e]
  induction k using zz with
  |zero=>exact .nil
  |succ k=>exact .cons a (ih k b)
theorem AU.drop:∀{vs:List Value} (k:Nat),AU PC Z ρ xs vs→AU PC Z ρ (xs.drop k) (vs.drop k):=by
 induction xs with
 |nil=>intro vs k h;rw[AU.C7 h];induction k using zz <;>exact .nil
 |cons x xs ih=>
  intro vs k h;refine Aq (AU.A9 h) fun v ws e a b=>?_;rw[e]
  induction k using zz with
  |zero=>exact .cons a b
  |succ k=>exact ih k b
end
inductive Cu where |free (n:Str) |num (i:Int)
structure Cv where
 nm:Str
 nk:Str
 qual:Str
 params:Arguments
 scope:Scope
 args:List (Cu×Pos)
 p0:Pos
 p1:Pos
 p2:Pos
noncomputable def gF:Cu×Pos→PySem.Expr
 |(.free n,p)=>.Name n p
 |(.num i,p)=>.Constant (.int i) 0 p
noncomputable def KI(nk:Str)(p2:Pos):List (Cu×Pos)→List PySem.Expr
 |[]=>[.Name nk p2]
 |a::r=>gF a::KI nk p2 r
noncomputable def Cv.body(L:Cv):PySem.Expr:=.Call (.Name L.nm L.p1) (KI L.nk L.p2 L.args) [] L.p0
structure Cx where
 prog:Program
 w:World
 K:Frag
 PC:Addr
 B0:Heap
 attrs:List Str
 self:Str
 fad:List Addr
 gl:List (Str×Val)
 mth:Nat→Bool
 lams:List Cv
noncomputable def Cx.Z(c:Cx)(R:Rec):Addr→Obj→Prop:=fun a o=>(c.B0.get? a=some o∧∀vs,o.data≠ .fields vs)∨(a,o)∈R.zs
noncomputable abbrev Cx.V(c:Cx)(R:Rec):Val→Value→Prop:=VR c.PC (c.Z R) R.ρ
noncomputable abbrev Cx.Vs(c:Cx)(R:Rec):List Val→List Value→Prop:=AU c.PC (c.Z R) R.ρ
theorem Cx.Z.mono{c:Cx}{R R':Rec}(h:R.le R'):∀a o,c.Z R a o→c.Z R' a o:=fun _ _ x=>x.imp id fun y=>h.zs _ y
theorem V.up{c:Cx}{R R':Rec}(h:R.le R'){x:Val}{v:Value}(y:c.V R x v):c.V R' x v:=VR.mono (Cx.Z.mono h) h.ρ y
theorem Vs.up{c:Cx}{R R':Rec}(h:R.le R'){x:List Val}{v:List Value}(y:c.Vs R x v):c.Vs R' x v:=AU.mono (Cx.Z.mono h) h.ρ y
noncomputable def FE(c:Cx)(R:Rec)(clos:List (Str×Addr)):List (Cu×Pos)→List Val→Prop
 |[],xs=>xs=[]
 |(.free n,_)::as,xs=>∃x ys ca oca rv,xs=x::ys∧clos.lookup n=some ca∧(ca,oca)∈R.zs∧oca.data=.cell (some rv)∧c.V R x rv∧FE c R clos as ys
 |(.num i,_)::as,xs=>∃ys,xs=.int i::ys∧FE c R clos as ys
theorem FE.mono{c:Cx}{R R':Rec}(hz:∀p∈R.zs,p∈R'.zs)(hr:∃t,R'.ρ=R.ρ++t){clos:List (Str×Addr)}{as:List (Cu×Pos)}:∀{xs:List Val},FE c R clos as xs→FE c R' clos as xs:=by
 have zm:∀a o,c.Z R a o→c.Z R' a o:=fun _ _ z=>z.imp id fun z=>hz _ z
 induction as with
 |nil=>exact fun h=>h
 |cons a as ih=>
  intro xs h
  obtain⟨a,p⟩:=a
  induction a using Cu.casesOn with
  |free n=>
   obtain⟨x,ys,ca,oca,rv,h1,h2,h3,h4,h5,h6⟩:=h
   exact⟨x,ys,ca,oca,rv,h1,h2,hz _ h3,h4,h5.mono zm hr,ih h6⟩
  |num i=>exact Aa h fun ys h1 h2=>⟨ys,h1,ih h2⟩
inductive Mb(c:Cx)(R:Rec)(k:Nat)(xs:List Val)(q:Addr):Prop
 |mk (L:Cv) (hL:L∈c.lams) (pm:Value) (c':Addr) (ctv:Value) (oc:Obj) (vs:Array Value) (t:Tok) (clos:List (Str×Addr)) (ad:Addr) (h1:(q,kla_obj "<lambda>" L.qual L.params L.body L.scope clos pm c' ctv)∈R.zs) (h2:(c',oc)∈R.zs) (h3:oc.data=.fields vs) (h4:vs[1]? =some (.str L.qual t))
  (h5:FE c R clos L.args xs) (h6:nsIn c.K mainGlobals L.nm=some (some (.ref ad))) (h7:c.fad[k]? =some ad):Mb c R k xs q
theorem Mb.mono{c:Cx}{R R':Rec}(hz:∀p∈R.zs,p∈R'.zs)(hr:∃t,R'.ρ=R.ρ++t){k:Nat}{xs:List Val}{q:Addr}(h:Mb c R k xs q):Mb c R' k xs q:=by
 induction h using Mb.casesOn with
 |mk L hL pm c' ctv oc vs t clos ad h1 h2 h3 h4 h5 h6 h7=>exact⟨L,hL,pm,c',ctv,oc,vs,t,clos,ad,hz _ h1,hz _ h2,h3,h4,h5.mono hz hr,h6,h7⟩
inductive LR(c:Cx)(R:Rec):LV→Value→Prop
 |v {x:Val} {rv:Value} (h:c.V R x rv):LR c R (.v x) rv
 |loc {k:Nat} {a:Addr} (h:R.ω[k]? =some a):LR c R (.loc k) (.ref a)
 |app {k:Nat} {a q:Addr} (h:R.ω[k]? =some a) (hq:c.Z R q (E5 a)):LR c R (.app k) (.ref q)
 |cb {k:Nat} {xs:List Val} {q:Addr} (h:Mb c R k xs q):LR c R (.cb k xs) (.ref q)
theorem LR.up{c:Cx}{R R':Rec}(h:R.le R'){x:LV}{v:Value}(y:LR c R x v):LR c R' x v:=by
 induction y using LR.casesOn with
 |v y=>exact .v (V.up h y)
 |loc e=>exact .loc (DY h.ω e)
 |app e q=>exact .app (DY h.ω e) (Cx.Z.mono h _ _ q)
 |cb z=>exact .cb (z.mono h.zs h.ρ)
structure Fx where
 cn:Str
 cs:Scope
 L:Addr
 fa:Addr
 cd:Value
 cl:List (Str×Addr)
 h₀:Heap
 names:List Str
noncomputable abbrev Fx.env(f:Fx):Env:=envX f.cn f.cs f.L f.fa f.cd f.cl
noncomputable def cnt{α:Type}:List (Option α)→Nat
 |[]=>0
 |none::r=>cnt r
 |some _::r=>cnt r+1
noncomputable def Ar(c:Cx)(R:Rec)(fs:List (Option LV))(es:List DictEntry):Prop:=
 (∀(k:Nat) (n:Str),c.attrs[k]? =some n→match Ax fs k with
  |some v=>∃rv,getL n es=some (some rv)∧LR c R v rv
  |none=>getL n es=some none)∧
 (∀n,n∉c.attrs→getL n es=some none)∧es.length≤cnt fs∧fs.length=c.attrs.length
noncomputable def Ct(c:Cx)(R:Rec):Ag.Cell→Obj→Prop
 | .Ao fs,o=>∃es n,o=dictOf es n∧Ar c R (B1 fs) es
 | .Ak xs,o=>∃vs n,o=seqObj false vs n∧xs.length≤AJ∧c.Vs R xs vs
 | .taken,_=>True
noncomputable def F6(f:Fx)(R:Rec)(a:Addr):Prop:=a∈R.ρ∨a∈R.ω∨a∈f.cl.map (·.2)∨∃x,R.sd=some (x,a)
structure RelL(c:Cx)(f:Fx)(R:Rec)(σ:St)(m:Str→Option Value)(led:List (Addr×Obj)):Prop where
 nd:(led.map (·.1)).Nodup
 slots:∀(k:Nat) (n:Str) (v:LV),f.names[k]? =some n→Ax σ.loc k=some v→match f.cs.names.lookup n with
  |some .local=>∃rv,m n=some rv∧LR c R v rv
  |some _=>∃a o rv,f.cl.lookup n=some a∧(a,o)∈led∧o.data=.cell (some rv)∧LR c R v rv
  |none=>False
 clo:∀n a,f.cl.lookup n=some a→∃o v,(a,o)∈led∧o.data=.cell v
 self:∀x dx,R.sd=some (x,dx)→m c.self=some (.ref x)∧c.Z R x (instObj c.PC dx)∧∃es n,(dx,dictOf es n)∈led∧Ar c R σ.self es
 self0:R.sd=none→σ.self=[]
 ml:∀a,F6 f R a→a∈led.map (·.1)
 hlen:R.ρ.length=σ.heap.length
 cells:∀(j:Nat) (ce:Ag.Cell),σ.heap[j]? =some ce→ce≠ .taken→∃a o,R.ρ[j]? =some a∧(a,o)∈led∧Ct c R ce o
 oln:R.ω.length=MI σ.own
 owns:∀(k:Nat) (xs:List Val),Fk σ.own k=some xs→∃a vs n,R.ω[k]? =some a∧(a,seqObj false vs n)∈led∧xs.length≤AJ∧c.Vs R xs vs
 zs:∀p∈R.zs,p∈led
 ex:∀p∈R.ex,p∈led
 D1:(R.ρ++R.ω++f.cl.map (·.2)).Nodup
 D2:∀x dx,R.sd=some (x,dx)→dx∉R.ω∧dx∉f.cl.map (·.2)∧∀(j:Nat) (ce:Ag.Cell),σ.heap[j]? =some ce→ce≠ .taken→R.ρ[j]? ≠some dx
 D3:∀a,F6 f R a→∀p∈R.zs++R.ex,p.1≠a
 D4:∀p∈R.zs,∀q∈R.ex,p.1≠q.1
 B:c.B0.StaysIn f.h₀
structure RelF(f:Fx)(h:Heap)(m:Str→Option Value)(led:List (Addr×Obj)):Prop where
 F:Fr f.h₀ f.L h m
 N:News f.h₀ f.L h led
structure Rel(c:Cx)(f:Fx)(R:Rec)(σ:St)(h:Heap)(m:Str→Option Value)(led:List (Addr×Obj)):Prop extends RelF f h m led,RelL c f R σ m led
structure An(s s':Shared):Prop where
 gens:s'.gens=s.gens
 drawn:s'.drawn=s.drawn
 os:s'.os=s.os
 tk:s.toks≤s'.toks
theorem An.refl(s:Shared):An s s:=⟨rfl,rfl,rfl,zu _⟩
theorem An.trans{a b d:Shared}(x:An a b)(y:An b d):An a d:=⟨y.gens.trans x.gens,y.drawn.trans x.drawn,y.os.trans x.os,zp x.tk y.tk⟩
theorem wpAny_toks{α:Type}{M:Model}{A:Around}{t:Sem α}{Q:α→Shared→Prop}{E:Value→Shared→Prop}{s:Shared}(h:wpAny M A t Q E s):
  wpAny M A t (fun a s'=>Q a s'∧s.toks≤s'.toks) (fun e s'=>E e s'∧s.toks≤s'.toks) s:=
 zW (PySem.wpAny_toks h) (fun _ _ x=>⟨x.2,x.1⟩) fun _ _ x=>⟨x.2,x.1⟩
theorem CQ{α:Type}{M:Model}{A:Around}{t:Sem α}{Q:α→Shared→Prop}{E:Value→Shared→Prop}{s:Shared}(h:wpAny M A t (fun a s'=>s.toks≤s'.toks→Q a s') E s):wpAny M A t Q E s:=
 zW (wpAny_toks h) (fun _ _ h=>h.1 h.2) fun _ _ h=>h.1
noncomputable def Ap(c:Cx)(f:Fx)(R:Rec)(σ:St)(h:Heap):Prop:=∃m led,Rel c f R σ h m led
noncomputable def put(a:Addr)(o':Obj)(led:List (Addr×Obj)):List (Addr×Obj):=led.map fun p=>if p.1=a then(a,o')else p
theorem Bj(a:Addr)(o':Obj)(led:List (Addr×Obj)):(put a o' led).map (·.1)=led.map (·.1):=by
 unfold put
 rw[List.map_map]
 refine List.map_congr_left fun p _=>?_
 show(if p.1=a then(a,o')else p).1=p.1
 by_cases h:p.1=a
 ·rw[z5 h];exact h.symm
 ·rw[zR h]
theorem AB{a b:Addr}{o o':Obj}{led:List (Addr×Obj)}(h:(b,o)∈led)(hne:b≠a):(b,o)∈put a o' led:=zA.mpr ⟨(b,o),h,zR hne⟩
theorem Bf{a:Addr}{o o':Obj}{led:List (Addr×Obj)}(h:(a,o)∈led):(a,o')∈put a o' led:=zA.mpr ⟨(a,o),h,z5 rfl⟩
theorem Se{a:Addr}{o':Obj}{led:List (Addr×Obj)}(h:∀p∈led,p.1≠a):put a o' led=led:=
 (List.map_congr_left fun p hp=>zR (h p hp)).trans (List.map_id led)
theorem Sd{a:Addr}{o o':Obj}{r:List (Addr×Obj)}(h:∀p∈r,p.1≠a):put a o' ((a,o)::r)=(a,o')::r:=by
 show(if(a,o).1=a then(a,o')else(a,o))::put a o' r=_
 rw[z5 rfl,Se h]
theorem Sf{a:Addr}{o':Obj}{p:Addr×Obj}{r:List (Addr×Obj)}(h:p.1≠a):put a o' (p::r)=p::put a o' r:=by
 show(if p.1=a then(a,o')else p)::put a o' r=_
 rw[zR h]
theorem LZ{a:Addr}{o:Obj}{led:List (Addr×Obj)}:(a,o)∈led→(led.map (·.1)).Nodup→UpdF a o led (fun o'=>put a o' led):=by
 induction led with
 |nil=>exact fun h=>nomatch h
 |cons p r ih=>
  intro hm hn
  have hn:=jg.mp hn
  induction zI.mp hm using jY with
  |inl e=>
   have hr:∀p∈r,p.1≠a:=fun q hq e'=>hn.1 (zA.mpr ⟨q,hq,e'.trans (zy Prod.fst e)⟩)
   rw[←e,show(fun o'=>put a o' ((a,o)::r))=fun o'=>(a,o')::r from funext fun _=>Sd hr]
   exact .head hr
  |inr hm'=>
   have hne:p.1≠a:=fun e=>hn.1 (zA.mpr ⟨(a,o),hm',e.symm⟩)
   rw[show(fun o'=>put a o' (p::r))=fun o'=>p::put a o' r from funext fun _=>Sf hne]
   exact .tail hne (ih hm' hn.2)
theorem Gp{a:Addr}{o:Obj}(o':Obj){led:List (Addr×Obj)}:(a,o)∈led→(led.map (·.1)).Nodup→Upd a o o' led (put a o' led):=by
 induction led with
 |nil=>exact fun h=>nomatch h
 |cons p r ih=>
  intro hm hn
  have hn:=jg.mp hn
  induction zI.mp hm using jY with
  |inl e=>
   have hr:∀p∈r,p.1≠a:=fun q hq e'=>hn.1 (zA.mpr ⟨q,hq,e'.trans (zy Prod.fst e)⟩)
   rw[←e,Sd hr]
   exact .head hr
  |inr hm'=>
   have hne:p.1≠a:=fun e=>hn.1 (zA.mpr ⟨(a,o),hm',e.symm⟩)
   rw[Sf hne]
   exact .tail hne (ih hm' hn.2)
end
section
theorem Fd{α:Type}{l:List (Option α)}:∀{k j:Nat} {v u:α},Ax (CE l k v) j=some u→(j=k∧u=v)∨(j≠k∧Ax l j=some u):=by
 induction l with
 |nil=>exact fun h=>nomatch h
 |cons x r ih=>
  intro k j v u h
  induction k using zz with
  |zero=>induction j using zz with
   |zero=>exact .inl ⟨rfl,(ze h).symm⟩
   |succ j=>exact .inr ⟨jL j,h⟩
  |succ k=>induction j using zz with
   |zero=>exact .inr ⟨(jL k).symm,h⟩
   |succ j=>exact(ih h).imp (fun p=>⟨zy (· +1) p.1,p.2⟩) (fun p=>⟨fun e=>p.1 (Nat.succ.inj e),p.2⟩)
theorem J2{α:Type}{l:List (Option α)}:∀{k j:Nat} {v:α},j≠k→Ax (CE l k v) j=Ax l j:=by
 induction l with
 |nil=>exact fun _=>rfl
 |cons x r ih=>
  intro k j v h
  induction k using zz with
  |zero=>induction j using zz with
   |zero=>exact absurd rfl h
   |succ j=>rfl
  |succ k=>induction j using zz with
   |zero=>rfl
   |succ j=>exact ih fun e=>h (zy (· +1) e)
theorem GL{α:Type}{l:List (Option α)}:∀{k:Nat} {v:α},k < l.length→Ax (CE l k v) k=some v:=by
 induction l with
 |nil=>exact fun h=>absurd h (jy _)
 |cons x r ih=>
  intro k v h
  induction k using zz with
  |zero=>rfl
  |succ k=>exact ih (jG h)
theorem FO{α:Type}(l:List (Option α)):∀(k:Nat) (v:α),(CE l k v).length=l.length:=by
 induction l with
 |nil=>exact fun _ _=>rfl
 |cons x r ih=>
  intro k v
  induction k using zz with
  |zero=>rfl
  |succ k=>exact zy (· +1) (ih k v)
theorem CN(o:List (List Val)):MI o=o.length:=by
 induction o with
 |nil=>rfl
 |cons _ r ih=>exact zy (· +1) ih
theorem Dp(o:List (List Val)):∀(k:Nat),Fk o k=o[k]? :=by
 induction o with
 |nil=>exact fun k=>by induction k using zz <;>rfl
 |cons _ r ih=>
  intro k
  induction k using zz with
  |zero=>rfl
  |succ k=>exact ih k
theorem LE(o:List (List Val))(v:List Val):Il o v=o++[v]:=by
 induction o with
 |nil=>rfl
 |cons x r ih=>exact zy (x::·) ih
theorem N4(o:List (List Val)):∀(k:Nat) (v:List Val),oset o k v=o.set k v:=by
 induction o with
 |nil=>exact fun k v=>by induction k using zz <;>rfl
 |cons x r ih=>
  intro k v
  induction k using zz with
  |zero=>rfl
  |succ k=>exact zy (x::·) (ih k v)
theorem ML(fs:List (Option Val)):(B1 fs).length=fs.length:=by
 induction fs with
 |nil=>rfl
 |cons x r ih=>induction x using zh <;>exact zy (· +1) ih
section
variable {c:Cx}{f:Fx}{R:Rec}{σ:St}{h h':Heap}{m m':Str→Option Value}{led led':List (Addr×Obj)}
theorem BF{f:Fx}{m:Str→Option Value}{led led':List (Addr×Obj)}{P P':Value→Prop}{n:Str}(hl:∀a o,f.cl.lookup n=some a→(a,o)∈led→(a,o)∈led')(hP:∀rv,P rv→P' rv)
  (h:match f.cs.names.lookup n with |some .local=>∃rv,m n=some rv∧P rv |some _=>∃a o rv,f.cl.lookup n=some a∧(a,o)∈led∧o.data=.cell (some rv)∧P rv |none=>False):
  match f.cs.names.lookup n with |some .local=>∃rv,m n=some rv∧P' rv |some _=>∃a o rv,f.cl.lookup n=some a∧(a,o)∈led'∧o.data=.cell (some rv)∧P' rv |none=>False:=by
 have one:(∃rv,m n=some rv∧P rv)→∃rv,m n=some rv∧P' rv:=fun h=>Aa h fun rv a b=>⟨rv,a,hP _ b⟩
 have two:(∃a o rv,f.cl.lookup n=some a∧(a,o)∈led∧o.data=.cell (some rv)∧P rv)→∃a o rv,f.cl.lookup n=some a∧(a,o)∈led'∧o.data=.cell (some rv)∧P' rv:=
  fun h=>AD h fun a o rv a1 a2 a3 a4=>⟨a,o,rv,a1,hl _ _ a1 a2,a3,hP _ a4⟩
 revert h
 induction f.cs.names.lookup n using zh with
 |none=>exact id
 |some kd=>cases kd <;>first |exact one |exact two
theorem Ar.up{R R':Rec}(hle:R.le R'){fs:List (Option LV)}{es:List DictEntry}(x:Ar c R fs es):Ar c R' fs es:=by
 refine⟨fun k n hk=>?_,x.2.1,x.2.2⟩
 have:=x.1 k n hk
 induction hl:Ax fs k using zh with
 |none=>rw[hl]at this;exact this
 |some v=>rw[hl]at this;refine Aa this fun rv a b=>?_;exact⟨rv,a,b.up hle⟩
theorem J9:∀{fs:List (Option Val)} {k:Nat} {v:LV},Ax (B1 fs) k=some v→∃x,v=.v x
 |[],k,v,h=>by induction k using zz <;>cases h
 |none::r,0,v,h=>by cases h
 |some x::r,0,v,h=>by cases h;exact⟨x,rfl⟩
 |none::r,k+1,v,h=>J9 (fs:=r) h
 |some x::r,k+1,v,h=>J9 (fs:=r) h
theorem Ar.B1{R R':Rec}(hz:∀x rv,c.V R x rv→c.V R' x rv){fs:List (Option Val)}{es:List DictEntry}(y:Ar c R (B1 fs) es):Ar c R' (B1 fs) es:=by
 refine HO y fun a b d e=>?_
 refine⟨fun k n hk=>?_,b,d,e⟩
 have:=a k n hk
 revert this
 induction q:Ax (Ag.B1 fs) k using zh with
 |none=>exact id
 |some v=>
  rintro⟨rv,a1,a2⟩
  refine zg (J9 q) fun x hq1=>?_;subst hq1
  cases a2 with |v a2=>exact⟨rv,a1,.v (hz _ _ a2)⟩
theorem Vs.imp{R R':Rec}(hz:∀x rv,c.V R x rv→c.V R' x rv){xs:List Val}:∀{vs:List Value},c.Vs R xs vs→c.Vs R' xs vs:=by
 induction xs with
 |nil=>intro vs h;rw[AU.C7 h];exact .nil
 |cons x xs ih=>intro vs h;refine Aq (AU.A9 h) fun v ws e a b=>?_;rw[e];exact .cons (hz _ _ a) (ih b)
theorem Ct.imp{R R':Rec}(hz:∀x rv,c.V R x rv→c.V R' x rv){ce:Ag.Cell}{o:Obj}(y:Ct c R ce o):Ct c R' ce o:=by
 induction ce using Cell.casesOn with
 |Ao fs=>exact AH y fun es n a b=>⟨es,n,a,b.B1 hz⟩
 |Ak xs=>exact Aq y fun vs n a b d=>⟨vs,n,a,b,Vs.imp hz d⟩
 |taken=>trivial
theorem Ct.up{R R':Rec}(hle:R.le R'){ce:Ag.Cell}{o:Obj}(y:Ct c R ce o):Ct c R' ce o:=y.imp fun _ _ z=>V.up hle z
theorem RelL.Ao(r:RelL c f R σ m led){j:Nat}{fs:List (Option Val)}(hj:σ.heap[j]? =some (Ag.Cell.Ao fs)):∃a es n,R.ρ[j]? =some a∧(a,dictOf es n)∈led∧Ar c R (B1 fs) es:=
 Aq (r.cells j _ hj nofun) fun a o a1 a2 a3=>AH a3 fun es n e a4=>⟨a,es,n,a1,e▸a2,a4⟩
theorem RelL.Ak(r:RelL c f R σ m led){j:Nat}{xs:List Val}(hj:σ.heap[j]? =some (Ag.Cell.Ak xs)):∃a vs n,R.ρ[j]? =some a∧(a,seqObj false vs n)∈led∧xs.length≤AJ∧c.Vs R xs vs:=
 Aq (r.cells j _ hj nofun) fun a o a1 a2 a3=>Aq a3 fun vs n e a4 a5=>⟨a,vs,n,a1,e▸a2,a4,a5⟩
theorem Rel.heap(r:Rel c f R σ h m led)(F:Fr f.h₀ f.L h' m)(N:News f.h₀ f.L h' led):Rel c f R σ h' m led:={r with F:=F,N:=N}
theorem Rel.get(r:Rel c f R σ h m led){a:Addr}{o:Obj}(hz:c.Z R a o):h.get? a=some o:=by
 rcases hz with hz |hz
 ·exact r.F.keep _ _ (r.B _ _ hz.1)
 ·exact r.N.get (r.zs _ hz)
theorem Rel.BE(r:Rel c f R σ h m led){a:Addr}{o:Obj}(hz:(a,o)∈led):h.get? a=some o:=r.N.get hz
theorem Rel.QY(r:Rel c f R σ h m led){a:Addr}(hf:∀p∈led,p.1≠a)(b:Addr)(hb:F6 f R b):b≠a:=fun e=>by
 refine Aa (zA.mp (r.ml b hb)) fun p hp e'=>?_
 exact hf p hp (e'.trans e)
theorem Rel.fresh(r:Rel c f R σ h m led){a:Addr}(hf:∀p∈led,p.1 < a)(b:Addr)(hb:F6 f R b):b≠a:=r.QY (fun p hp=>j5 (hf p hp)) b hb
theorem Lu{a:Addr}{o:Obj}(nd:(led.map (·.1)).Nodup)(hf:∀p∈led,p.1≠a):(((a,o)::led).map (·.1)).Nodup:=by
 rw[JA,jg]
 refine⟨fun hm=>?_,nd⟩
 refine Aa (zA.mp hm) fun p hp e=>?_
 exact hf p hp e
theorem J7{a:Addr}{o:Obj}(nd:(led.map (·.1)).Nodup)(hf:∀p∈led,p.1 < a):(((a,o)::led).map (·.1)).Nodup:=Lu nd fun p hp=>j5 (hf p hp)
theorem Rel.I9(r:Rel c f R σ h m led){a:Addr}{o:Obj}(F:Fr f.h₀ f.L h' m)(N:News f.h₀ f.L h' ((a,o)::led))(hf:∀p∈led,p.1≠a):
  ∃R',R.le R'∧Rel c f R' σ h' m ((a,o)::led)∧(a,o)∈R'.zs∧R'.ρ=R.ρ∧R'.ω=R.ω:=by
 have le:R.le {R with zs:=(a,o)::R.zs}:=⟨⟨[],by simp⟩,⟨[],by simp⟩,fun _ h=>zr _ h,rfl,rfl⟩
 refine⟨{R with zs:=(a,o)::R.zs},le,?_,.head _,rfl,rfl⟩
 refine{F:=F,N:=N,nd:=Lu r.nd hf,slots:=fun k n v hk hv=>?_,clo:=fun n a' ha=>?_,self:=fun x dx hs=>?_,self0:=r.self0,ml:=fun b hb=>zr _ (r.ml b hb),hlen:=r.hlen,cells:=fun j ce hj ho=>?_,oln:=r.oln,owns:=fun k xs hk=>?_,zs:=fun p hp=>?_,ex:=fun p hp=>zr _ (r.ex p hp),D1:=r.D1,D2:=r.D2,D3:=fun b hb p hp=>?_,D4:=fun p hp q hq=>?_,B:=r.B}
 ·exact BF (fun a o a1 a2=>zr _ a2) (fun _ b=>b.up le) (r.slots k n v hk hv)
 ·refine AH (r.clo n a' ha) fun o' v a1 a2=>?_
  exact⟨o',v,zr _ a1,a2⟩
 ·obtain⟨a1,a2,es,n,a3,a4⟩:=r.self x dx hs
  exact⟨a1,Cx.Z.mono le _ _ a2,es,n,zr _ a3,a4.up le⟩
 ·refine Aq (r.cells j ce hj ho) fun a' o a1 a2 a3=>?_
  exact⟨a',o,a1,zr _ a2,a3.up le⟩
 ·refine AD (r.owns k xs hk) fun a' vs n a1 a2 a3 a4=>?_
  exact⟨a',vs,n,a1,zr _ a2,a3,Vs.up le a4⟩
 ·rcases zI.mp hp with e |hp
  ·rw[e];exact .head _
  ·exact zr _ (r.zs p hp)
 ·rcases zt.mp hp with hp |hp
  ·rcases zI.mp hp with e |hp
   ·rw[e];exact fun e'=>r.QY hf b hb e'.symm
   ·exact r.D3 b hb p (zk _ hp)
  ·exact r.D3 b hb p (zi _ hp)
 ·rcases zI.mp hp with e |hp
  ·rw[e];exact fun e'=>hf q (r.ex q hq) e'.symm
  ·exact r.D4 p hp q hq
theorem Rel.frozen(r:Rel c f R σ h m led){a:Addr}{o:Obj}(F:Fr f.h₀ f.L h' m)(N:News f.h₀ f.L h' ((a,o)::led))(hf:∀p∈led,p.1 < a):
  ∃R',R.le R'∧Rel c f R' σ h' m ((a,o)::led)∧(a,o)∈R'.zs∧R'.ρ=R.ρ∧R'.ω=R.ω:=r.I9 F N fun p hp=>j5 (hf p hp)
theorem Rel.YF(r:Rel c f R σ h m led){a:Addr}{vs:List Value}{n:Nat}{xs:List Val}(F:Fr f.h₀ f.L h' m)(N:News f.h₀ f.L h' ((a,seqObj false vs n)::led))(hf:∀p∈led,p.1 < a)
  (hx:c.Vs R xs vs) (hl:xs.length≤AJ):
  ∃R',R.le R'∧Rel c f R' ⟨σ.loc,Il σ.own xs,σ.self,σ.heap⟩ h' m ((a,seqObj false vs n)::led)∧R'.ω[MI σ.own]? =some a:=by
 have le:R.le {R with ω:=R.ω++[a]}:=⟨⟨[],by simp⟩,⟨[a],rfl⟩,fun _ h=>h,rfl,rfl⟩
 refine⟨{R with ω:=R.ω++[a]},le,?_,by rw[←r.oln];simp⟩
 have mut':∀b,F6 f {R with ω:=R.ω++[a]} b→b=a∨F6 f R b:=fun b hb=>by
  rcases hb with hb |hb |hb |hb
  ·exact .inr (.inl hb)
  ·rcases zt.mp hb with hb |hb
   ·exact .inr (.inr (.inl hb))
   ·exact .inl (zG.mp hb)
  ·exact .inr (.inr (.inr (.inl hb)))
  ·exact .inr (.inr (.inr (.inr hb)))
 refine{F:=F,N:=N,nd:=J7 r.nd hf,slots:=fun k n v hk hv=>?_,clo:=fun n a' ha=>?_,self:=fun x dx hs=>?_,self0:=r.self0,ml:=fun b hb=>?_,hlen:=r.hlen,cells:=fun j ce hj ho=>?_,oln:=?_,owns:=fun k xs' hk=>?_,zs:=fun p hp=>zr _ (r.zs p hp),ex:=fun p hp=>zr _ (r.ex p hp),D1:=?_,D2:=fun x dx hs=>?_,D3:=fun b hb p hp=>?_,D4:=r.D4,B:=r.B}
 ·exact BF (fun a o a1 a2=>zr _ a2) (fun _ b=>b.up le) (r.slots k n v hk hv)
 ·refine AH (r.clo n a' ha) fun o' v a1 a2=>?_
  exact⟨o',v,zr _ a1,a2⟩
 ·obtain⟨a1,a2,es,n,a3,a4⟩:=r.self x dx hs
  exact⟨a1,Cx.Z.mono le _ _ a2,es,n,zr _ a3,a4.up le⟩
 ·rcases mut' b hb with e |hb
  ·subst e;exact .head _
  ·exact zr _ (r.ml b hb)
 ·refine Aq (r.cells j ce hj ho) fun a' o a1 a2 a3=>?_
  exact⟨a',o,a1,zr _ a2,a3.up le⟩
 ·show(R.ω++[a]).length=MI (Il σ.own xs)
  rw[CN,LE,zd,zd,r.oln,CN];rfl
 ·rw[show(⟨σ.loc,Il σ.own xs,σ.self,σ.heap⟩:St).own=σ.own++[xs]from LE _ _,Dp]at hk
  by_cases hlt:k < σ.own.length
  ·rw[zJ hlt]at hk
   refine AD (r.owns k xs' (by rw[Dp];exact hk)) fun a' vs' n' a1 a2 a3 a4=>?_
   refine⟨a',vs',n',?_,zr _ a2,a3,Vs.up le a4⟩
   rw[zJ (by rw[r.oln,CN];exact hlt)];exact a1
  ·rw[zM (by lia)]at hk
   have hk0:k - σ.own.length=0:=by
    induction q:k - σ.own.length using zz with
    |zero=>rfl
    |succ j=>rw[q]at hk;simp at hk
   rw[hk0]at hk
   simp only[List.getElem?_cons_zero,Option.some.injEq]at hk
   subst hk
   refine⟨a,vs,n,?_,.head _,hl,Vs.up le hx⟩
   have hkl:k=R.ω.length:=by rw[r.oln,CN];lia
   rw[hkl];simp
 ·have D:=r.D1
  have ha:a∉R.ρ++R.ω++f.cl.map (·.2):=fun hm=>by
   have:F6 f R a:=by
    rcases zt.mp hm with hm |hm
    ·rcases zt.mp hm with hm |hm
     ·exact .inl hm
     ·exact .inr (.inl hm)
    ·exact .inr (.inr (.inl hm))
   exact r.fresh hf a this rfl
  have:(R.ρ++(R.ω++[a])++f.cl.map (·.2)).Perm (a::(R.ρ++R.ω++f.cl.map (·.2))):=by
   rw[←zl]
   refine List.Perm.trans ?_ List.perm_middle
   rw[zl]
   exact List.Perm.refl _
  exact this.nodup_iff.mpr (jg.mpr ⟨ha,D⟩)
 ·refine Bx (r.D2 x dx hs) fun b1 b2 b3=>?_
  refine⟨fun hm=>?_,b2,b3⟩
  rcases zt.mp hm with hm |hm
  ·exact b1 hm
  ·exact r.fresh hf dx (.inr (.inr (.inr ⟨x,hs⟩))) (zG.mp hm)
 ·rcases mut' b hb with e |hb
  ·subst e
   have:p∈led:=by
    rcases zt.mp hp with hp |hp
    ·exact r.zs p hp
    ·exact r.ex p hp
   exact fun e=>absurd (hf p this) (by rw[e];exact j6 _)
  ·exact r.D3 b hb p hp
theorem EB(D:(R.ρ++R.ω++f.cl.map (·.2)).Nodup){a b:Addr}(ha:a∈R.ρ)(hb:b∈R.ω):a≠b:=by
 rw[zl]at D
 exact(zZ.mp D).2.2 a ha b (zk _ hb)
theorem E3(D:(R.ρ++R.ω++f.cl.map (·.2)).Nodup){a b:Addr}(ha:a∈R.ρ)(hb:b∈f.cl.map (·.2)):a≠b:=
 (zZ.mp D).2.2 a (zk _ ha) b hb
theorem Mc(D:(R.ρ++R.ω++f.cl.map (·.2)).Nodup){a b:Addr}(ha:a∈R.ω)(hb:b∈f.cl.map (·.2)):a≠b:=
 (zZ.mp D).2.2 a (zi _ ha) b hb
theorem DX{l:List Addr}(D:l.Nodup){i j:Nat}{a:Addr}(hi:l[i]? =some a)(hj:l[j]? =some a):i=j:=by
 refine zg (zn.mp hi) fun h1 e1=>?_
 refine zg (zn.mp hj) fun h2 e2=>?_
 exact(JJ D).mp (e1.trans e2.symm)
theorem al(D:(R.ρ++R.ω++f.cl.map (·.2)).Nodup):R.ω.Nodup:=(zZ.mp (zZ.mp D).1).2.1
theorem Gq(D:(R.ρ++R.ω++f.cl.map (·.2)).Nodup):R.ρ.Nodup:=(zZ.mp (zZ.mp D).1).1
theorem gB(D:(R.ρ++R.ω++f.cl.map (·.2)).Nodup):(f.cl.map (·.2)).Nodup:=(zZ.mp D).2.1
theorem Az{l:List Addr}{i:Nat}{a:Addr}(h:l[i]? =some a):a∈l:=zQ h
theorem lookup_mem{l:List (Str×Addr)}{n:Str}{a:Addr}(h:l.lookup n=some a):a∈l.map (·.2):=by
 induction l with
 |nil=>simp at h
 |cons p r ih=>
  rw[zV]at h
  split at h
  ·cases h;simp
  ·exact zr _ (ih h)
theorem D7(r:Rel c f R σ h m led){a:Addr}{o':Obj}(hc:a∉f.cl.map (·.2)){k:Nat}{n:Str}{v:LV}(hk:f.names[k]? =some n)(hv:Ax σ.loc k=some v):
  match f.cs.names.lookup n with
  |some .local=>∃rv,m n=some rv∧LR c R v rv
  |some _=>∃b o rv,f.cl.lookup n=some b∧(b,o)∈put a o' led∧o.data=.cell (some rv)∧LR c R v rv
  |none=>False:=by
 have:=r.slots k n v hk hv
 revert this
 induction f.cs.names.lookup n using zh with
 |none=>exact id
 |some kd=>cases kd <;>first
  |exact id
  |(rintro⟨b,o,rv,a1,a2,a3,a4⟩;exact⟨b,o,rv,a1,AB a2 (fun e=>hc (e▸lookup_mem a1)),a3,a4⟩)
theorem Gc(r:Rel c f R σ h m led){a:Addr}{o':Obj}(hc:a∉f.cl.map (·.2)):∀n b,f.cl.lookup n=some b→∃o v,(b,o)∈put a o' led∧o.data=.cell v:=fun n b hb=>by
 refine AH (r.clo n b hb) fun o v a1 a2=>?_
 exact⟨o,v,AB a1 (fun e=>hc (e▸lookup_mem hb)),a2⟩
theorem Rel.RT(r:Rel c f R σ h m led){k:Nat}{a:Addr}{vs:List Value}{n:Nat}{xs:List Val}(hk:R.ω[k]? =some a)
  (F:Fr f.h₀ f.L h' m) (N:News f.h₀ f.L h' (put a (seqObj false vs n) led)) (hx:c.Vs R xs vs) (hl:xs.length≤AJ):
  Rel c f R (σ.SD k xs) h' m (put a (seqObj false vs n) led):=by
 have haω:=Az hk
 have hc:a∉f.cl.map (·.2):=fun hb=>Mc r.D1 haω hb rfl
 have mz:∀p∈R.zs++R.ex,p.1≠a:=r.D3 a (.inr (.inl haω))
 refine{F:=F,N:=N,nd:=by rw[Bj];exact r.nd,slots:=fun j n v hj hv=>D7 r hc hj hv,clo:=Gc r hc,self:=fun x dx hs=>?_,self0:=r.self0,ml:=fun b hb=>by rw[Bj];exact r.ml b hb,hlen:=r.hlen,cells:=fun j ce hj ho=>?_,oln:=?_,owns:=fun j ys hj=>?_,zs:=fun p hp=>AB (r.zs p hp) (mz p (zk _ hp)),ex:=fun p hp=>AB (r.ex p hp) (mz p (zi _ hp)),D1:=r.D1,D2:=r.D2,D3:=r.D3,D4:=r.D4,B:=r.B}
 ·obtain⟨a1,a2,es,n,a3,a4⟩:=r.self x dx hs
  exact⟨a1,a2,es,n,AB a3 (fun e=>(r.D2 x dx hs).1 (e▸haω)),a4⟩
 ·refine Aq (r.cells j ce hj ho) fun b o a1 a2 a3=>?_
  exact⟨b,o,a1,AB a2 (EB r.D1 (Az a1) haω),a3⟩
 ·show R.ω.length=Ag.MI (oset σ.own k xs)
  rw[r.oln,CN,CN,N4,jK]
 ·have hj':(σ.own.set k xs)[j]? =some ys:=by rw[←N4,←Dp];exact hj
  by_cases e:k=j
  ·subst e
   have hlt:k < σ.own.length:=by
    have:=(zn.mp hj').1
    rwa[jK]at this
   rw[jv hlt]at hj'
   cases hj'
   refine AD (r.owns k (σ.own[k]) (by rw[Dp];simp[hlt])) fun b vs' n' a1 a2 a3 a4=>?_
   rw[hk]at a1;cases a1
   exact⟨a,vs,n,hk,Bf a2,hl,hx⟩
  ·rw[jQ e]at hj'
   refine AD (r.owns j ys (by rw[Dp];exact hj')) fun b vs' n' a1 a2 a3 a4=>?_
   refine⟨b,vs',n',a1,AB a2 (fun eq=>e ?_),a3,a4⟩
   subst eq
   exact DX (al r.D1) hk a1
theorem Rel.Vj(r:Rel c f R σ h m led){x dx:Addr}(hs:R.sd=some (x,dx)){es':List DictEntry}{n':Nat}{fs':List (Option LV)}
  (F:Fr f.h₀ f.L h' m) (N:News f.h₀ f.L h' (put dx (dictOf es' n') led)) (hf:Ar c R fs' es'):
  Rel c f R ⟨σ.loc,σ.own,fs',σ.heap⟩ h' m (put dx (dictOf es' n') led):=by
 refine Bx (r.D2 x dx hs) fun dω dc dρ=>?_
 have mz:∀p∈R.zs++R.ex,p.1≠dx:=r.D3 dx (.inr (.inr (.inr ⟨x,hs⟩)))
 obtain⟨s1,s2,es,n,s3,s4⟩:=r.self x dx hs
 refine{F:=F,N:=N,nd:=by rw[Bj];exact r.nd,slots:=fun j n v hj hv=>D7 r dc hj hv,clo:=Gc r dc,self:=fun x' dx' hs'=>?_,self0:=fun e=>absurd (hs.symm.trans e) (by simp),ml:=fun b hb=>by rw[Bj];exact r.ml b hb,hlen:=r.hlen,cells:=fun j ce hj ho=>?_,oln:=r.oln,owns:=fun j ys hj=>?_,zs:=fun p hp=>AB (r.zs p hp) (mz p (zk _ hp)),ex:=fun p hp=>AB (r.ex p hp) (mz p (zi _ hp)),D1:=r.D1,D2:=r.D2,D3:=r.D3,D4:=r.D4,B:=r.B}
 ·rw[hs]at hs';cases hs'
  exact⟨s1,s2,es',n',Bf s3,hf⟩
 ·refine Aq (r.cells j ce hj ho) fun b o a1 a2 a3=>?_
  exact⟨b,o,a1,AB a2 (fun e=>dρ j ce hj ho (e▸a1)),a3⟩
 ·refine AD (r.owns j ys hj) fun b vs' n' a1 a2 a3 a4=>?_
  exact⟨b,vs',n',a1,AB a2 (fun e=>dω (e▸Az a1)),a3,a4⟩
theorem Rel.WL(r:Rel c f R σ h m led){k:Nat}{n:Str}{v:LV}{rv:Value}(hk:f.names[k]? =some n)(hn:f.names.Nodup)(hs:n≠c.self)(hl:f.cs.names.lookup n=some .local)
  (hv:LR c R v rv) (F:Fr f.h₀ f.L h' (fun y=>if y=n then some rv else m y)) (N:News f.h₀ f.L h' led):
  Rel c f R (σ.BB k v) h' (fun y=>if y=n then some rv else m y) led:=by
 refine{r with F:=F,N:=N,slots:=fun j n' u hj hu=>?_,self:=fun x dx hsd=>?_,self0:=r.self0}
 ·rcases Fd hu with⟨e1,e2⟩ |⟨e1,e2⟩
  ·subst e1;subst e2
   rw[hk]at hj;cases hj
   rw[hl]
   exact⟨rv,by simp,hv⟩
  ·have:=r.slots j n' u hj e2
   have hne:n'≠n:=fun e=>e1 (by
    subst e
    refine zg (zn.mp hj) fun h1 q1=>?_
    refine zg (zn.mp hk) fun h2 q2=>?_
    exact(JJ hn).mp (q1.trans q2.symm))
   revert this
   induction f.cs.names.lookup n' using zh with
   |none=>exact id
   |some kd=>cases kd <;>first
    |(rintro⟨rv',a,b⟩;exact⟨rv',by simp[hne,a],b⟩)
    |exact id
 ·refine Aw (r.self x dx hsd) fun a1 rest=>?_
  exact⟨by simp[hs.symm,a1],rest⟩
theorem Rel.eS(r:Rel c f R σ h m led){k:Nat}{n:Str}{v:LV}{rv:Value}{a:Addr}{o':Obj}(hk:f.names[k]? =some n)(hn:f.names.Nodup)(hl:f.cs.names.lookup n=some .cell)
  (hcl:f.cl.lookup n=some a) (hinj:∀n',f.cl.lookup n'=some a→n'=n) (hv:LR c R v rv) (ho:o'.data=.cell (some rv)) (F:Fr f.h₀ f.L h' m) (N:News f.h₀ f.L h' (put a o' led)):
  Rel c f R (σ.BB k v) h' m (put a o' led):=by
 have hac:=lookup_mem hcl
 have mz:∀p∈R.zs++R.ex,p.1≠a:=r.D3 a (.inr (.inr (.inl hac)))
 refine AH (r.clo n a hcl) fun o v₀ hmem _=>?_
 refine{F:=F,N:=N,nd:=by rw[Bj];exact r.nd,slots:=fun j n' u hj hu=>?_,clo:=fun n' b hb=>?_,self:=fun x dx hs=>?_,self0:=r.self0,ml:=fun b hb=>by rw[Bj];exact r.ml b hb,hlen:=r.hlen,cells:=fun j ce hj ho=>?_,oln:=r.oln,owns:=fun j ys hj=>?_,zs:=fun p hp=>AB (r.zs p hp) (mz p (zk _ hp)),ex:=fun p hp=>AB (r.ex p hp) (mz p (zi _ hp)),D1:=r.D1,D2:=r.D2,D3:=r.D3,D4:=r.D4,B:=r.B}
 ·rcases Fd hu with⟨e1,e2⟩ |⟨e1,e2⟩
  ·subst e1;subst e2
   rw[hk]at hj;cases hj
   rw[hl]
   exact⟨a,o',rv,hcl,Bf hmem,ho,hv⟩
  ·have:=r.slots j n' u hj e2
   have hne:n'≠n:=fun e=>e1 (by
    subst e
    refine zg (zn.mp hj) fun h1 q1=>?_
    refine zg (zn.mp hk) fun h2 q2=>?_
    exact(JJ hn).mp (q1.trans q2.symm))
   revert this
   induction f.cs.names.lookup n' using zh with
   |none=>exact id
   |some kd=>cases kd <;>first
    |exact id
    |(rintro⟨b,ob,rv',a1,a2,a3,a4⟩;exact⟨b,ob,rv',a1,AB a2 (fun e=>hne (hinj n' (e▸a1))),a3,a4⟩)
 ·refine AH (r.clo n' b hb) fun ob vb a1 a2=>?_
  by_cases e:b=a
  ·subst e;exact⟨o',some rv,Bf a1,ho⟩
  ·exact⟨ob,vb,AB a1 e,a2⟩
 ·obtain⟨a1,a2,es,n,a3,a4⟩:=r.self x dx hs
  exact⟨a1,a2,es,n,AB a3 (fun e=>(r.D2 x dx hs).2.1 (e▸hac)),a4⟩
 ·refine Aq (r.cells j ce hj ho) fun b o a1 a2 a3=>?_
  exact⟨b,o,a1,AB a2 (E3 r.D1 (Az a1) hac),a3⟩
 ·refine AD (r.owns j ys hj) fun b vs' n' a1 a2 a3 a4=>?_
  exact⟨b,vs',n',a1,AB a2 (Mc r.D1 (Az a1) hac),a3,a4⟩
theorem Rel.Om(r:Rel c f R σ h m led){a:Addr}{vs:List Value}{n:Nat}{xs:List Val}(F:Fr f.h₀ f.L h' m)(N:News f.h₀ f.L h' ((a,seqObj false vs n)::led))(hf:∀p∈led,p.1 < a)
  (hx:c.Vs R xs vs) (hl:xs.length≤AJ):
  ∃R',R.le R'∧Rel c f R' (σ.BA (σ.heap++[.Ak xs])) h' m ((a,seqObj false vs n)::led)∧R'.ρ[σ.heap.length]? =some a:=by
 have le:R.le {R with ρ:=R.ρ++[a]}:=⟨⟨[a],rfl⟩,⟨[],(zE _).symm⟩,fun _ h=>h,rfl,rfl⟩
 refine⟨{R with ρ:=R.ρ++[a]},le,?_,by rw[←r.hlen,zM (zu _),jl];rfl⟩
 have mut':∀b,F6 f {R with ρ:=R.ρ++[a]} b→b=a∨F6 f R b:=fun b hb=>by
  rcases hb with hb |hb
  ·rcases zt.mp hb with hb |hb
   ·exact .inr (.inl hb)
   ·exact .inl (zG.mp hb)
  ·exact .inr (.inr hb)
 have ha:∀b,F6 f R b→b≠a:=fun b hb=>r.fresh hf b hb
 have old:∀{j ce},(σ.heap++[Ag.Cell.Ak xs])[j]? =some ce→(j=σ.heap.length∧ce=.Ak xs)∨(σ.heap[j]? =some ce∧(R.ρ++[a])[j]? =R.ρ[j]?):=fun{j ce} hj=>by
  by_cases hlt:j < σ.heap.length
  ·rw[zJ hlt]at hj
   exact .inr ⟨hj,zJ (by rw[r.hlen];exact hlt)⟩
  ·have e:j=σ.heap.length:=by
    have:=(zn.mp hj).1
    rw[zd]at this
    exact jJ (Je this) (Nat.not_lt.mp hlt)
   subst e
   rw[zM (zu _),jl]at hj
   exact .inl ⟨rfl,(ze hj).symm⟩
 refine{F:=F,N:=N,nd:=J7 r.nd hf,slots:=fun k n v hk hv=>?_,clo:=fun n a' ha=>?_,self:=fun x dx hs=>?_,self0:=r.self0,ml:=fun b hb=>?_,hlen:=?_,cells:=fun j ce hj ho=>?_,oln:=r.oln,owns:=fun k xs' hk=>?_,zs:=fun p hp=>zr _ (r.zs p hp),ex:=fun p hp=>zr _ (r.ex p hp),D1:=?_,D2:=fun x dx hs=>?_,D3:=fun b hb p hp=>?_,D4:=r.D4,B:=r.B}
 ·exact BF (fun a o a1 a2=>zr _ a2) (fun _ b=>b.up le) (r.slots k n v hk hv)
 ·refine AH (r.clo n a' ha) fun o' v a1 a2=>?_
  exact⟨o',v,zr _ a1,a2⟩
 ·obtain⟨a1,a2,es,n,a3,a4⟩:=r.self x dx hs
  exact⟨a1,Cx.Z.mono le _ _ a2,es,n,zr _ a3,a4.up le⟩
 ·rcases mut' b hb with e |hb
  ·rw[e];exact .head _
  ·exact zr _ (r.ml b hb)
 ·show(R.ρ++[a]).length=(σ.heap++[Ag.Cell.Ak xs]).length
  rw[zd,zd,r.hlen];rfl
 ·rcases old hj with⟨e1,e2⟩ |⟨h1,h2⟩
  ·rw[e1,e2]
   exact⟨a,_,by show(R.ρ++[a])[σ.heap.length]? =_;rw[←r.hlen,zM (zu _),jl];rfl,.head _,vs,n,rfl,hl,Vs.up le hx⟩
  ·refine Aq (r.cells j ce h1 ho) fun b o a1 a2 a3=>?_
   exact⟨b,o,h2.trans a1,zr _ a2,a3.up le⟩
 ·refine AD (r.owns k xs' hk) fun a' vs' n' a1 a2 a3 a4=>?_
  exact⟨a',vs',n',a1,zr _ a2,a3,Vs.up le a4⟩
 ·have D:=r.D1
  have hm:a∉R.ρ++R.ω++f.cl.map (·.2):=fun hm=>by
   rcases zt.mp hm with hm |hm
   ·rcases zt.mp hm with hm |hm
    ·exact ha a (.inl hm) rfl
    ·exact ha a (.inr (.inl hm)) rfl
   ·exact ha a (.inr (.inr (.inl hm))) rfl
  have:((R.ρ++[a])++R.ω++f.cl.map (·.2)).Perm (a::(R.ρ++R.ω++f.cl.map (·.2))):=by
   rw[zl (R.ρ++[a]),zl,zl R.ρ]
   exact List.perm_middle
  exact this.nodup_iff.mpr (jg.mpr ⟨hm,D⟩)
 ·refine Bx (r.D2 x dx hs) fun b1 b2 b3=>⟨b1,b2,fun j ce hj ho e=>?_⟩
  rcases old hj with⟨e1,e2⟩ |⟨h1,h2⟩
  ·have e:(R.ρ++[a])[j]? =some dx:=e
   rw[e1,←r.hlen,zM (zu _),jl]at e
   exact ha dx (.inr (.inr (.inr ⟨x,hs⟩))) (ze e).symm
  ·exact b3 j ce h1 ho (h2.symm.trans e)
 ·rcases mut' b hb with e |hb
  ·subst e
   have:p∈led:=by
    rcases zt.mp hp with hp |hp
    ·exact r.zs p hp
    ·exact r.ex p hp
   exact fun e=>absurd (hf p this) (by rw[e];exact j6 _)
  ·exact r.D3 b hb p hp
theorem Rel.On(r:Rel c f R σ h m led){j:Nat}{a:Addr}{vs:List Value}{n:Nat}{xs ys:List Val}(hj:σ.heap[j]? =some (Ag.Cell.Ak ys))(haj:R.ρ[j]? =some a)
  (F:Fr f.h₀ f.L h' m) (N:News f.h₀ f.L h' (put a (seqObj false vs n) led)) (hx:c.Vs R xs vs) (hl:xs.length≤AJ):
  Rel c f R (σ.BA (σ.heap.set j (.Ak xs))) h' m (put a (seqObj false vs n) led):=by
 have haρ:=Az haj
 have hc:a∉f.cl.map (·.2):=fun hb=>E3 r.D1 haρ hb rfl
 have mz:∀p∈R.zs++R.ex,p.1≠a:=r.D3 a (.inl haρ)
 have hlt:=(zn.mp hj).1
 have old:∀{i ce},(σ.heap.set j (Ag.Cell.Ak xs))[i]? =some ce→(i=j∧ce=.Ak xs)∨(i≠j∧σ.heap[i]? =some ce):=fun{i ce} hi=>by
  by_cases e:j=i
  ·subst e
   rw[jv hlt]at hi
   exact .inl ⟨rfl,(ze hi).symm⟩
  ·rw[jQ e]at hi
   exact .inr ⟨fun e'=>e e'.symm,hi⟩
 refine{F:=F,N:=N,nd:=by rw[Bj];exact r.nd,slots:=fun i n v hi hv=>D7 r hc hi hv,clo:=Gc r hc,self:=fun x dx hs=>?_,self0:=r.self0,ml:=fun b hb=>by rw[Bj];exact r.ml b hb,hlen:=r.hlen.trans (jK ..).symm,cells:=fun i ce hi ho=>?_,oln:=r.oln,owns:=fun i ys hi=>?_,zs:=fun p hp=>AB (r.zs p hp) (mz p (zk _ hp)),ex:=fun p hp=>AB (r.ex p hp) (mz p (zi _ hp)),D1:=r.D1,D2:=fun x dx hs=>?_,D3:=r.D3,D4:=r.D4,B:=r.B}
 ·obtain⟨a1,a2,es,n,a3,a4⟩:=r.self x dx hs
  exact⟨a1,a2,es,n,AB a3 (fun e=>(r.D2 x dx hs).2.2 j _ hj nofun (e▸haj)),a4⟩
 ·rcases old hi with⟨e1,e2⟩ |⟨h1,h2⟩
  ·rw[e1,e2]
   refine Aq (r.cells j _ hj nofun) fun b o b1 b2 _=>?_
   cases b1.symm.trans haj
   exact⟨a,_,haj,Bf b2,vs,n,rfl,hl,hx⟩
  ·refine Aq (r.cells i ce h2 ho) fun b o b1 b2 b3=>?_
   exact⟨b,o,b1,AB b2 (fun e=>h1 (DX (Gq r.D1) b1 (e▸haj))),b3⟩
 ·refine AD (r.owns i ys hi) fun b vs' n' a1 a2 a3 a4=>?_
  exact⟨b,vs',n',a1,AB a2 (fun e=>EB r.D1 haρ (Az a1) e.symm),a3,a4⟩
 ·refine Bx (r.D2 x dx hs) fun b1 b2 b3=>⟨b1,b2,fun i ce hi ho=>?_⟩
  rcases old hi with⟨e1,_⟩ |⟨_,h2⟩
  ·rw[e1];exact b3 j _ hj nofun
  ·exact b3 i ce h2 ho
end
end
section
structure L8(c:Cx)(f:Fx)(A:Around)(d:Nat):Prop where
 kind:f.cs.kind=.function
 hh:A.handled=none
 depth:A.depth+8*d+8 < recursionLimit
 units:A.units+24*d+80 < cLine
 fr:∃outer A₀ base,A.frames=some (f.env::outer)∧Below A₀ base outer f.h₀
 X:c.K.In f.h₀
 T:∃p loose mean mg mb,Top p loose mean mg mb f.h₀
 gd:∃g,A.guards=some g
structure E4(c:Cx)(f:Fx):Prop where
 nd:f.names.Nodup
 self:c.self∉f.names
 kinds:∀n∈f.names,(f.cs.names.lookup n=some .local)∨(f.cs.names.lookup n=some .cell∧∃a,f.cl.lookup n=some a)∨(f.cs.names.lookup n=some .free∧∃a,f.cl.lookup n=some a)
 inj:∀n n' a,f.cl.lookup n=some a→f.cl.lookup n'=some a→n'=n
 dbg:∀n∈f.names,(n==("__debug__":Str))=false∧(n==("__classdict__":Str))=false
section
variable {c:Cx}{f:Fx}{A:Around}{d:Nat}{R:Rec}{σ:St}{s:Shared}{E:Value→Shared→Prop}{m:Str→Option Value}{led:List (Addr×Obj)}
theorem AK{s:Shared}{h':Heap}:An s {s with heap:=h'}:=⟨rfl,rfl,rfl,zu _⟩
theorem Al{s:Shared}{h':Heap}{t:Nat}(h:s.toks≤t):An s {s with heap:=h',toks:=t}:=⟨rfl,rfl,rfl,h⟩
theorem A5(G:L8 c f A d)(NM:E4 c f)(r:Rel c f R σ s.heap m led){k:Nat}{n:Str}{v:LV}{pos:Pos}(hk:f.names[k]? =some n)(hv:Ax σ.loc k=some v)
  {Q:Value→Shared→Prop} (h:∀rv,LR c R v rv→Q rv s):wpAny (model c.prog c.w) A (eval (.Name n pos) f.env) Q E s:=by
 have hn:=zQ hk
 have hr:=r.slots k n v hk hv
 refine Aw (NM.dbg n hn) fun db dc=>?_
 rcases NM.kinds n hn with e |⟨e,_⟩ |⟨e,_⟩
 ·rw[e]at hr
  refine Aa hr fun rv a b=>?_
  exact nameX_L r.F a (h rv b) G.kind e db
 ·rw[e]at hr
  refine AD hr fun a o rv a1 a2 a3 a4=>?_
  exact nameX_C r.N a1 a2 a3 (h rv a4) G.kind e db
 ·rw[e]at hr
  refine AD hr fun a o rv a1 a2 a3 a4=>?_
  exact nameX_F r.N a1 a2 a3 (h rv a4) G.kind e db dc
theorem MC(G:L8 c f A d)(NM:E4 c f)(r:Rel c f R σ s.heap m led){k:Nat}{n:Str}{v:LV}(hk:f.names[k]? =some n)(hv:Ax σ.loc k=some v)
  {Q:Value→Shared→Prop} (h:∀rv,LR c R v rv→Q rv s):wpAny (model c.prog c.w) A (loadName f.env n) Q E s:=by
 have hn:=zQ hk
 have hr:=r.slots k n v hk hv
 refine Aw (NM.dbg n hn) fun db dc=>?_
 rcases NM.kinds n hn with e |⟨e,_⟩ |⟨e,_⟩
 ·rw[e]at hr
  refine Aa hr fun rv a b=>?_
  exact wpAny_loadName_local G.kind e r.F.ns a (h rv b)
 ·rw[e]at hr
  refine AD hr fun a o rv a1 a2 a3 a4=>?_
  exact wpAny_loadName_cell G.kind e a1 ⟨o,r.N.get a2,a3⟩ (h rv a4)
 ·rw[e]at hr
  refine AD hr fun a o rv a1 a2 a3 a4=>?_
  exact wpAny_loadName_free G.kind e a1 ⟨o,r.N.get a2,a3⟩ (h rv a4) dc
theorem Br(G:L8 c f A d)(NM:E4 c f)(r:Rel c f R σ s.heap m led){k:Nat}{n:Str}{v:LV}{rv:Value}(hk:f.names[k]? =some n)(hfree:f.cs.names.lookup n≠some .free)
  (hv:LR c R v rv) {Q:Unit→Shared→Prop} (h:∀s',An s s'→Ap c f R (σ.BB k v) s'.heap→Q () s'):wpAny (model c.prog c.w) A (storeName f.env n rv) Q E s:=by
 have hn:=zQ hk
 rcases NM.kinds n hn with e |⟨e,a,ha⟩ |⟨e,_⟩
 ·exact storeX_L r.F r.N (fun h' F N=>h _ (Al (by first |exact zu _ |exact zP _)) ⟨_,_,r.WL hk NM.nd (fun e'=>NM.self (e'▸hn)) e hv F N⟩) G.kind e
 ·refine AH (r.clo n a ha) fun o v₀ hm ho=>?_
  exact storeX_C r.F r.N ha (LZ hm r.nd) ho (fun h' o' F N ho'=>h _ (Al (by first |exact zu _ |exact zP _)) ⟨_,_,r.eS hk NM.nd e ha (fun n' hn'=>NM.inj n n' a ha hn') hv ho' F N⟩) G.kind e
 ·exact absurd e hfree
inductive VH(c:Cx)(R:Rec)(h:Heap):Val→Value→Prop
 |of {x:Val} {rv:Value} (y:c.V R x rv):VH c R h x rv
 |own {xs:List Val} {a:Addr} {vs:List Value} {n:Nat} (ho:h.get? a=some (seqObj false vs n)) (hl:xs.length≤AJ) (hs:c.Vs R xs vs):VH c R h (.seq false xs) (.ref a)
noncomputable def Cl(h:Heap)(a:Addr)(tup:Bool)(vs:List Value)(n:Nat):Prop:=∃o,h.get? a=some o∧o.cls=.type (kindS tup)∧o.data=.seq vs.toArray n
theorem Cl.of{h:Heap}{a:Addr}{tup:Bool}{vs:List Value}{n:Nat}(e:h.get? a=some (seqObj tup vs n)):Cl h a tup vs n:=⟨_,e,rfl,rfl⟩
theorem Rel.T7(r:Rel c f R σ h m led){a:Addr}{tup:Bool}{vs:List Value}{n:Nat}(z:Hr (c.Z R) a tup vs n):Cl h a tup vs n:=let⟨o,x,y⟩:=z;⟨o,r.get x,y⟩
noncomputable def bp:Val→Bool
 | .seq _ _=>true
 |_=>false
theorem VH.v{h:Heap}{x:Val}{rv:Value}(y:VH c R h x rv)(hs:bp x=false):c.V R x rv:=
 VH.casesOn (motive:=fun x rv _=>bp x=false→c.V R x rv) y (fun y _=>y) (fun _ _ _ h=>Bool.noConfusion h) hs
noncomputable def mj(c:Cx)(R:Rec)(h:Heap):Val→Value→Prop
 | .seq tup xs,rv=>∃a vs n,rv=.ref a∧Cl h a tup vs n∧xs.length≤AJ∧c.Vs R xs vs
 |_,_=>True
theorem VH.seq(r:Rel c f R σ s.heap m led){tup:Bool}{xs:List Val}{rv:Value}(x:VH c R s.heap (.seq tup xs) rv):
  ∃a vs n,rv=.ref a∧Cl s.heap a tup vs n∧xs.length≤AJ∧c.Vs R xs vs:=
 VH.casesOn (motive:=fun x rv _=>mj c R s.heap x rv) x (fun{x _} y=>by
  induction x using Val.casesOn with
  |seq tup xs=>exact AD y.inv fun a vs n e h hl hs=>⟨a,vs,n,e,r.T7 h,hl,hs⟩
  |_=>trivial) fun ho hl hs=>⟨_,_,_,rfl,.of ho,hl,hs⟩
theorem VH.ZG{h:Heap}{t:Txt}{rv:Value}(x:VH c R h (.str t) rv):∃tk,t.length≤AJ∧rv=.str ⟨t.toArray⟩ tk:=(x.v rfl).inv
set_option tactic.hygienic true in
theorem NU(r:Rel c f R σ s.heap m led){l:LV}{x:Val}{rv:Value}(hl:look σ.own l=some x)(y:LR c R l rv):VH c R s.heap x rv:=by
 induction y using LR.casesOn with
 |v y=>cases hl;exact .of y
 |loc e=>
  rename_i k a
  simp only[look]at hl
  induction ho:Fk σ.own k using zh with
  |none=>rw[ho]at hl;cases hl
  |some xs=>
   rw[ho]at hl;cases hl
   refine AD (r.owns k xs ho) fun b vs n a1 a2 a3 a4=>?_
   rw[e]at a1;cases a1
   exact .own (r.BE a2) a3 a4
 |app _ _=>cases hl
 |cb _=>cases hl
theorem Bi(r:Rel c f R σ s.heap m led){l:LV}{x:Val}{rv:Value}(hl:Cf σ l=some x)(y:LR c R l rv):VH c R s.heap x rv:=by
 have hl:(match look σ.own l with |some x=>GO σ.heap x |none=>none)=some x:=hl
 induction q:look σ.own l using zh with
 |none=>rw[q]at hl;cases hl
 |some z=>
  rw[q]at hl
  have hv:=NU r q y
  have hl:GO σ.heap z=some x:=hl
  induction z using Val.casesOn with
  |hl j=>
   have hl:(match σ.heap[j]? with |some (.Ak xs)=>some (Val.seq false xs) |_=>none)=some x:=hl
   refine Aa (hv.v rfl).inv fun a e ha=>?_
   induction q2:σ.heap[j]? using zh with
   |none=>rw[q2]at hl;cases hl
   |some ce=>induction ce using Cell.casesOn with
    |Ak xs=>
     rw[q2]at hl
     refine AD (r.Ak q2) fun b vs n b1 b2 b3 b4=>?_
     cases ha.symm.trans b1
     rw[←ze hl,e]
     exact .own (r.BE b2) b3 b4
    |_=>rw[q2]at hl;cases hl
  |_=>cases hl;exact hv
theorem AP{l:LV}{x:Val}{rv:Value}(hl:val? l=some x)(y:LR c R l rv):c.V R x rv:=by
 induction y using LR.casesOn with
 |v y=>cases hl;exact y
 |_=>cases hl
theorem Bk:(AJ:Nat)=16777216:=rfl
theorem A6:AJ=sizeLine:=rfl
theorem Ai{h:Heap}{a:Addr}{vs:List Value}{n:Nat}(e:Cl h a false vs n):h.IsList a vs.toArray:=let⟨o,x,y,z⟩:=e;⟨o,x,y,n,z⟩
theorem Rg{h:Heap}{a:Addr}{vs:List Value}{n:Nat}(e:Cl h a true vs n):IsTup h a vs.toArray:=let⟨o,x,y,z⟩:=e;⟨o,x,y,n,z⟩
noncomputable def AV(c:Cx)(f:Fx)(A:Around)(R:Rec)(σ:St)(s:Shared)(t:Sem Value)(v:Val):Prop:=
 ∀(E:Value→Shared→Prop) (Q:Value→Shared→Prop),(∀R' rv s',R.le R'→An s s'→Ap c f R' σ s'.heap→c.V R' v rv→Q rv s')→wpAny (model c.prog c.w) A t Q E s
theorem AV.plain{t:Sem Value}{v:Val}(r:Ap c f R σ s.heap)(h:∀(E:Value→Shared→Prop) (Q:Value→Shared→Prop),(∀rv tk,c.V R v rv→Q rv {s with toks:=tk})→wpAny (model c.prog c.w) A t Q E s):AV c f A R σ s t v:=
 fun E Q hq=>zW (wpAny_toks (h E (fun rv s'=>∃tk,s'={s with toks:=tk}∧c.V R v rv) fun rv tk hv=>⟨tk,rfl,hv⟩)) (fun rv s' x=>by
  obtain⟨⟨tk,rfl,hv⟩,ht⟩:=x
  exact hq R rv _ (.refl R) (Al ht) r hv) fun _ _ x=>x.1
theorem AV.made{t:Sem Value}{v:Val}(r:Ap c f R σ s.heap)
  (h:∀(E:Value→Shared→Prop) (Q:Value→Shared→Prop) m led,Rel c f R σ s.heap m led→(∀a o rv h' tk,Fr f.h₀ f.L h' m→News f.h₀ f.L h' ((a,o)::led)→(∀p∈led,p.1 < a)→
   (∀R',R.le R'→(a,o)∈R'.zs→c.V R' v rv)→Q rv {s with heap:=h',toks:=tk})→wpAny (model c.prog c.w) A t Q E s):AV c f A R σ s t v:=by
 intro E Q hq
 refine Av r ?_;clear r;intro m led r
 refine zW (wpAny_toks (h E (fun rv s'=>∃R' h' tk,s'={s with heap:=h',toks:=tk}∧R.le R'∧Ap c f R' σ h'∧c.V R' v rv) m led r fun a o rv h' tk F N hf hv=>?_)) (fun rv s' x=>?_) fun _ _ x=>x.1
 ·refine Hm (r.frozen F N hf) fun R' le r' hz _ _=>?_
  exact⟨R',h',tk,rfl,le,⟨_,_,r'⟩,hv R' le hz⟩
 ·obtain⟨⟨R',h',tk,rfl,le,r',hv⟩,ht⟩:=x
  exact hq R' rv _ le (Al ht) r' hv
end
end
section
noncomputable def Ah(x:PySem.Expr):Bool:= !Nat.beq x.ctorIdx 22
noncomputable def Cs(o:PySem.Expr):Prop:=∀(attr:Str) (env:Env) (t:Sem Value),attributeBase o attr env t=t
theorem Ab{x:PySem.Expr}{rest:List PySem.Expr}{env:Env}(h:Ah x=true):starEach (x::rest) env=(false,eval x env)::starEach rest env:=by
 cases x <;>first |rfl |(cases h)
theorem AR{xs:List PySem.Expr}{env:Env}{pos:Pos}(h:xs.all Ah=true):(backTo pos (starEach xs env)).any (·.1)=false:=by
 induction xs with
 |nil=>rfl
 |cons x r ih=>
  rw[jP,jN]at h
  rw[Ab h.1]
  show(false || (backTo pos (starEach r env)).any (·.1))=false
  rw[ih h.2];rfl
section
variable {c:Cx}{f:Fx}{A:Around}{d:Nat}{R R':Rec}{σ σ':St}{s s':Shared}{E:Value→Shared→Prop}{m:Str→Option Value}{led:List (Addr×Obj)}{C:Cfg}{X:AN→St→Prop}
structure Rec.Lm(R R':Rec):Prop where
 ρ:∃t,R'.ρ=R.ρ++t
 zs:∀p∈R.zs,p∈R'.zs
 ex:∀p∈R.ex,p∈R'.ex
 sd:R'.sd=R.sd
theorem Rec.le.x{R R':Rec}(h:R.le R'):R.Lm R':=⟨h.ρ,h.zs,fun p hp=>by rw[h.ex];exact hp,h.sd⟩
theorem Rec.Lm.trans{R R' R'':Rec}(a:R.Lm R')(b:R'.Lm R''):R.Lm R'':=by
 refine zg a.ρ fun t h1=>?_;refine zg b.ρ fun t' h2=>?_
 exact⟨⟨t++t',by rw[h2,h1,zl]⟩,fun p h=>b.zs p (a.zs p h),fun p h=>b.ex p (a.ex p h),b.sd.trans a.sd⟩
structure Mark(B:Heap)(l:List Env)(a:Addr)(cls a0:Value)(h:Heap):Prop where
 st:B.StaysIn h
 new:B.get? a=none
 fr:h.FunFrames B l
 at_:h.TracedW B a cls a0∨∃oe vs,h.get? a=some oe∧oe.cls=cls∧oe.data=.fields vs∧vs[1]? =some .none∧vs[0]? =some a0
theorem Mark.leave{M:Model}{B:Heap}{env:Env}{outer:List Env}{L a:Addr}{cls a0:Value}{Q:Unit→Shared→Prop}(hfr:A.frames=some (env::outer))(hf:env.frame=some L)(m:Mark B (env::outer) a cls a0 s.heap)
  (hQ:∀h',Heap.FlyingW B outer a cls a0 h'→s.heap.UpToSlots h'→Q () {s with heap:=h'}):wpAny M A (leaving env (.ref a)) Q E s:=by
 obtain⟨h1,h2,h3,h4⟩:=m
 rcases h4 with h4 |⟨oe,vs,he,hc,hd,hv1,hv0⟩
 ·exact wpAny_leaves_onW hfr hf ⟨h1,h2,h3,h4⟩ hQ
 ·refine wpAny_leaving_firstW hfr h3 hf he h1 h2 hd hv1 hv0 fun h' hL=>?_
  obtain⟨k1,⟨_,_,k2⟩,k3,k4⟩:=hL
  exact hQ h' ⟨k1,h2,k2,hc▸k3⟩ k4
theorem Mark.of{B h:Heap}{l:List Env}{a:Addr}{cls a0:Value}(y:Heap.FlyingW B l a cls a0 h):Mark B l a cls a0 h:=⟨y.1,y.2.1,y.2.2.1,.inl y.2.2.2⟩
inductive am(c:Cx)(f:Fx)(A:Around)(x:AN)(σ':St)(R':Rec)(ev:Value)(s':Shared):Prop
 |mk (a:Addr) (X:String) (B:Heap) (a0:Value) (m:Str→Option Value) (led:List (Addr×Obj)) (outer:List Env) (hx:x=.user a) (hv:ev=.ref a) (hT:Hq X) (hA:A.frames=some (f.env::outer)) (mk:Mark B (f.env::outer) a (.type X) a0 s'.heap)
  (hB:∀b o,f.h₀.get? b=some o→b∉outer.filterMap (·.frame)→B.get? b=some o) (hl:∀p∈led,p.1≠a→B.get? p.1=some p.2) (hn:∀p∈led,f.h₀.get? p.1=none) (up:f.h₀.UpToSlots s'.heap) (r:RelL c f R' σ' m led):am c f A x σ' R' ev s'
noncomputable def HT(c:Cx)(f:Fx)(A:Around)(R:Rec)(s:Shared)(X:AN→St→Prop)(E:Value→Shared→Prop):Prop:=
 ∀x σ' R' ev s',R.Lm R'→An s s'→X x σ'→am c f A x σ' R' ev s'→E ev s'
theorem HT.l9{R R':Rec}{s s':Shared}{X:AN→St→Prop}{E:Value→Shared→Prop}(h:HT c f A R s X E)(le:R.Lm R')(sm:An s s'):HT c f A R' s' X E:=
 fun x σ' R'' ev s'' l m hx he=>h x σ' R'' ev s'' (le.trans l) (sm.trans m) hx he
theorem HT.up{R R':Rec}{s s':Shared}{X:AN→St→Prop}{E:Value→Shared→Prop}(h:HT c f A R s X E)(le:R.le R')(sm:An s s'):HT c f A R' s' X E:=h.l9 le.x sm
noncomputable def Tk(c:Cx)(f:Fx)(A:Around)(X:AN→St→Prop)(R:Rec)(σ:St)(s:Shared)(x:PySem.Expr)(K:LV→St→Prop):Prop:=
 ∀(E Q:Value→Shared→Prop),HT c f A R s X E→(∀l σ' R' rv s',R.le R'→An s s'→K l σ'→Ap c f R' σ' s'.heap→LR c R' l rv→Q rv s')→wpAny (model c.prog c.w) A (eval x f.env) Q E s
noncomputable def au(c:Cx)(f:Fx)(A:Around)(X:AN→St→Prop)(R:Rec)(σ:St)(s:Shared)(x:PySem.Expr)(K:Bool→St→Prop):Prop:=
 ∀(E:Value→Shared→Prop) (Q:Bool→Shared→Prop),HT c f A R s X E→(∀b σ' R' s',R.le R'→An s s'→K b σ'→Ap c f R' σ' s'.heap→Q b s')→wpAny (model c.prog c.w) A (isTrue x f.env (eval x f.env)) Q E s
noncomputable def Ho(c:Cx)(f:Fx)(A:Around)(X:AN→St→Prop)(R:Rec)(σ:St)(s:Shared)(pos:Pos)(xs:List PySem.Expr)(K:List Val→St→Prop):Prop:=
 ∀(E:Value→Shared→Prop) (Q:List Value→Shared→Prop),HT c f A R s X E→(∀vs σ' R' rvs s',R.le R'→An s s'→K vs σ'→Ap c f R' σ' s'.heap→c.Vs R' vs rvs→vs.length=xs.length→Q rvs s')→wpAny (model c.prog c.w) A (spliced (backTo pos (starEach xs f.env))) Q E s
theorem AV.to{t:Sem Value}{v:Val}{K:LV→St→Prop}{Q:Value→Shared→Prop}(h:AV c f A R' σ' s' t v)(hK:K (.v v) σ')(le:R.le R')(sm:An s s')
  (hq:∀l σ' R' rv s',R.le R'→An s s'→K l σ'→Ap c f R' σ' s'.heap→LR c R' l rv→Q rv s'):wpAny (model c.prog c.w) A t Q E s':=
 h E Q fun R'' rv s'' le' sm' r hv=>hq (.v v) σ' R'' rv s'' (le.trans le') (sm.trans sm') hK r (.v hv)
theorem Ho.nil{pos:Pos}{K:List Val→St→Prop}(r:Ap c f R σ s.heap)(h:K [] σ):Ho c f A X R σ s pos [] K:=
 fun _ _ _ hq=>jI (hq [] σ R [] s (.refl R) (.refl s) h r .nil rfl)
theorem Ho.cons{pos:Pos}{x:PySem.Expr}{xs:List PySem.Expr}{K:List Val→St→Prop}(hx:Ah x=true)
  (h:Tk c f A X R σ s x (fun l σ₁=>BP (val? l) fun v=>∀R₁ s₁,R.le R₁→An s s₁→Ap c f R₁ σ₁ s₁.heap→Ho c f A X R₁ σ₁ s₁ pos xs (fun vs σ₂=>K (v::vs) σ₂))):Ho c f A X R σ s pos (x::xs) K:=by
 intro E Q xo hq
 refine jf (h E _ xo fun l σ₁ R₁ rv s₁ le sm hk r hl=>?_) (Ab hx)
 refine Aa (Ad hk) fun v hv hk=>?_
 refine hk R₁ s₁ le sm r E _ (xo.up le sm) fun vs σ₂ R₂ rvs s₂ le₂ sm₂ hk₂ r₂ hvs hlen=>?_
 exact hq (v::vs) σ₂ R₂ (rv::rvs) s₂ (le.trans le₂) (sm.trans sm₂) hk₂ r₂ (.cons (V.up le₂ (AP hv hl)) hvs) (zy (· +1) hlen)
structure mi(c:Cx)(f:Fx)(n:Str)(id:String):Prop where
 gl:nsIn c.K mainGlobals n=some none
 bi:bootBuiltins n=some (.builtin id)
 nn:n≠"__name__"
 k:f.cs.names.lookup n=some .globalImplicit
 db:(n==("__debug__":Str))=false
theorem AI{n:Str}{npos:Pos}{args:List PySem.Expr}{kws:List Keyword}{pos:Pos}{env:Env}:eval (.Call (.Name n npos) args kws pos) env=(do
  callWith pos (←eval (.Name n npos) env) [] (backTo pos (starEach args env)) (backToKw pos (keywordEach kws env))):=rfl
theorem AY{o:PySem.Expr}{name:Str}{apos pos:Pos}{xs:List PySem.Expr}{Q:Value→Shared→Prop}(hb:Cs o)(hp:xs.all Ah=true)(hl:xs.length < 25)(hl1:(apos.endLine==pos.line)=true)
  (h:wpAny (model c.prog c.w) A (eval o f.env) (fun ov s₁=>∀pl,wpAny (model c.prog c.w) A (getMethod ov name pl) (fun fx s₂=>wpAny (model c.prog c.w) A (callWith pos fx.1 fx.2 (backTo pos (starEach xs f.env)) []) Q E s₂) E s₁) E s):
  wpAny (model c.prog c.w) A (eval (.Call (.Attribute o name apos) xs [] pos) f.env) Q E s:=by
 rw[arm_eval_Call,hb]
 refine zj (zW h (fun ov s₁ h₁=>zj (Ji ?_)) fun _ _ x=>x)
 unfold methodCall
 have hall:∀xs:List PySem.Expr,xs.all Ah=true→(backTo pos (starEach xs f.env)).all (fun p=> !p.1)=true:=by
  intro xs hp
  induction xs with
  |nil=>rfl
  |cons x r ih=>
   rw[jP,jN]at hp
   rw[Ab hp.1]
   show(true && (backTo pos (starEach r f.env)).all (fun p=> !p.1))=true
   rw[ih hp.2];rfl
 have hform:methodCallForm (xs.length+([]:List Keyword).length) (backTo pos (starEach xs f.env)) (backToKw pos (keywordEach [] f.env))=true:=by
  unfold methodCallForm
  rw[hall xs hp]
  exact ja (show xs.length+0 < 30 by lia)
 rw[hform]
 refine zj (jw ?_)
 unfold calleeOf
 rw[z5 rfl]
 refine zW (h₁ _) (fun fx s₂ h₂=>?_) fun _ _ x=>x
 obtain⟨g,first⟩:=fx
 unfold methodCallPos
 rw[hl1]
 exact zj (zF h₂)
end
end
end Ag
end
namespace Ag
section
open PySem PySem.StrLaws PySem.Builtin PySem.Builtin.Str
theorem XW{p k n}:E7 p k (n+1)=cond (p k) (.ofNat k) (E7 p (k+1) n):=rfl
theorem bw{p k n r}:B4 p k (n+1) r=B4 p (k+1) n (cond (p k) (.ofNat k) r):=rfl
theorem Nv{b:Bool}{p:Prop}[Decidable p](h:b=true↔p):b=decide p:=by
 induction b using za with
 |true=>exact(ja (h.mp rfl)).symm
 |false=>exact(zU fun hp=>Bool.noConfusion (h.mpr hp)).symm
theorem hU(m n:Nat):Nat.beq m n=decide (m=n):=Nv ⟨zw,fun e=>e▸jA m⟩
theorem bQ(m n:Nat):Nat.ble m n=decide (m≤n):=Nv ⟨zC,zD⟩
theorem UB(m n:Nat):Nat.blt m n=decide (m < n):=bQ _ _
theorem LT{t x:Txt}{i:Nat}:subAt ⟨t.toArray⟩ ⟨x.toArray⟩ i=true↔(t.drop i).take x.length=x:=by
 rw[subAt_eq];exact beq_iff_eq
theorem ED(t x:Txt)(b i:Nat):(i+(⟨x.toArray⟩:Str).length≤b∧subAt ⟨t.toArray⟩ ⟨x.toArray⟩ i=true)↔Dg x t b i=true:=by
 refine⟨fun h=>?_,fun h=>?_⟩
 ·show cond (Nat.ble (i+x.length) b) _ false=true
  rw[zD (show i+x.length≤b from h.1)];exact Gl.mpr (LT.mp h.2)
 ·have q:=condT h
  exact⟨zC q.1,LT.mpr (Gl.mp q.2)⟩
section
variable {s u:Str}{hi lim k:Nat}{l:List Nat}{st:Array Nat×Nat}{so:Option Nat}
theorem J8(h:((st.fst.size < lim∧st.snd≤k)∧k+u.length≤hi)∧subAt s u k=true):forIn (k::l) st (occBody s u hi lim)=forIn l (st.fst.push k,k+u.length) (occBody s u hi lim):=by
 rw[Jc]
 show(if _ then _ else _:Id _) >>=_=_
 rw[z5 h];rfl
theorem MH(h:¬(((st.fst.size < lim∧st.snd≤k)∧k+u.length≤hi)∧subAt s u k=true)):forIn (k::l) st (occBody s u hi lim)=forIn l st (occBody s u hi lim):=by
 rw[Jc]
 show(if _ then _ else _:Id _) >>=_=_
 rw[zR h];rfl
theorem Rj(h:k+u.length≤hi∧subAt s u k=true):forIn (k::l) so (lastBody s u hi)=forIn l (some k) (lastBody s u hi):=by
 rw[Jc]
 show(if _ then _ else _:Id _) >>=_=_
 rw[z5 h];rfl
theorem Ur(h:¬(k+u.length≤hi∧subAt s u k=true)):forIn (k::l) so (lastBody s u hi)=forIn l so (lastBody s u hi):=by
 rw[Jc]
 show(if _ then _ else _:Id _) >>=_=_
 rw[zR h];rfl
theorem occ_head:∀{st:Array Nat×Nat},st.fst.toList.head? =some k→(forIn l st (occBody s u hi lim)).run.fst.toList.head? =some k:=by
 induction l with
 |nil=>exact fun h=>h
 |cons a l ih=>
  intro st h
  by_cases hc:((st.fst.size < lim∧st.snd≤a)∧a+u.length≤hi)∧subAt s u a=true
  ·rw[J8 hc]
   exact ih (by rw[Array.toList_push,List.head?_append,h];rfl)
  ·rw[MH hc];exact ih h
end
theorem Q2{k:Nat}:∀{l:List Nat},l.head? =some k→(match l with |i::_=>(i:Int) |[]=> -1)=Int.ofNat k
 |[],h=>nomatch h
 |_::_,h=>zy Int.ofNat (ze h)
theorem Nm{t x:Txt}{b k:Nat}(h:¬(k+(⟨x.toArray⟩:Str).length≤b∧subAt ⟨t.toArray⟩ ⟨x.toArray⟩ k=true)):Dg x t b k=false:=
 Bool.eq_false_iff.mpr fun q=>h ((ED t x b k).mpr q)
theorem occ_first(t x:Txt)(b:Nat)(n:Nat):∀(k free:Nat),free≤k→
  (match(forIn (List.range' k n) ((#[]:Array Nat),free) (occBody ⟨t.toArray⟩ ⟨x.toArray⟩ b 1)).run.fst.toList with |i::_=>(i:Int) |[]=> -1)=E7 (Dg x t b) k n:=by
 induction n with
 |zero=>exact fun _ _ _=>rfl
 |succ n ih=>
  intro k free hf
  rw[List.range'_succ,XW]
  by_cases hc:k+(⟨x.toArray⟩:Str).length≤b∧subAt ⟨t.toArray⟩ ⟨x.toArray⟩ k=true
  ·rw[J8 ⟨⟨⟨Nat.one_pos,hf⟩,hc.1⟩,hc.2⟩,(ED t x b k).mp hc]
   refine Q2 (occ_head ?_)
   rfl
  ·rw[MH fun h=>hc ⟨h.1.2,h.2⟩,Nm hc]
   exact ih (k+1) free (z7 hf)
theorem Pb(t x:Txt)(a b:Nat):(match occurrences ⟨t.toArray⟩ ⟨x.toArray⟩ a b 1 with |i::_=>(i:Int) |[]=> -1)=H5 x t a b:=by
 rw[occ_eq]
 exact occ_first t x b (b+1 - a) a a (zu _)
theorem OZ(t x:Txt)(b:Nat)(n:Nat):∀(k:Nat) (st:Option Nat) (r:Int),r=(match st with |some i=>(i:Int) |none=> -1)→
  (match(forIn (List.range' k n) st (lastBody ⟨t.toArray⟩ ⟨x.toArray⟩ b)).run with |some i=>(i:Int) |none=> -1)=B4 (Dg x t b) k n r:=by
 induction n with
 |zero=>exact fun _ _ _ h=>h.symm
 |succ n ih=>
  intro k st r h
  rw[List.range'_succ,bw]
  by_cases hc:k+(⟨x.toArray⟩:Str).length≤b∧subAt ⟨t.toArray⟩ ⟨x.toArray⟩ k=true
  ·rw[Rj hc,(ED t x b k).mp hc]
   exact ih (k+1) (some k) (Int.ofNat k) rfl
  ·rw[Ur hc,Nm hc]
   exact ih (k+1) st r h
theorem Lk(t x:Txt)(a b:Nat):(match lastOccurrence ⟨t.toArray⟩ ⟨x.toArray⟩ a b with |some i=>(i:Int) |none=> -1)=A4 x t a b:=by
 rw[last_eq]
 exact OZ t x b (b+1 - a) a none (-1) rfl
theorem LG{a b:Nat}:sliceRange (a:Int) (b:Int) 1=(List.range (b - a)).map (fun k=>a+k):=by
 have h:(if(a:Int) < b then((b:Int) - a+1 - 1) / 1 else 0).toNat=b - a:=by
  rw[Int.ediv_one]
  by_cases h:(a:Int) < b
  ·rw[z5 h];lia
  ·rw[zR h];lia
 show(List.range (if(1:Int) >0 then(if(a:Int) < (b:Int)then((b:Int) - a+1 - 1) / 1 else 0)else _).toNat).map _=_
 rw[z5 (by decide),h]
 exact List.map_congr_left fun k _=>zy (fun z:Int=>((a:Int)+z).toNat) (Int.one_mul k)
theorem G7{α:Type}(t:List α)(arr:Array α)(ha:arr=t.toArray){a b:Nat}(hb:b≤t.length):(sliceRange (a:Int) (b:Int) 1).filterMap (arr[·]?)=sliceOf t a b:=by
 subst ha
 rw[LG,show(fun x:Nat=>t.toArray[x]?)=(fun x=>t[x]?)from funext fun x=>z8]
 by_cases hab:a≤b
 ·exact(picks t (b - a) a (zp (Jn (Nat.add_sub_cancel' hab)) hb)).trans JO.symm
 ·rw[Nat.sub_eq_zero_of_le (Jl hab)]
  exact(jn (zp (List.length_take_le _ _) (Jl hab))).symm
end
end Ag
section
open PySem PySem.W PySem.Calls PyProof.Rows
namespace Ag
section
theorem Gm(x:Txt):∀y:Txt,Bo x y=decide (x=y):=by
 induction x with
 |nil=>exact fun y=>by induction y using zo <;>rfl
 |cons a x ih=>
  intro y
  induction y using zo with
  |nil=>rfl
  |cons b y=>
   show cond (Nat.beq a b) (Bo x y) false=_
   rw[ih,hU]
   by_cases h:a=b
   ·rw[ja h]
    exact decide_eq_decide.mpr ⟨fun e=>h▸e▸rfl,fun e=>(jx e).2⟩
   ·rw[zU h]
    exact(zU fun e=>h (jx e).1).symm
theorem Ek(a b:Int):FJ a b=decide (a=b):=by
 refine Nv ?_
 induction a using jV with
 |ofNat x=>induction b using jV with
  |ofNat y=>exact⟨fun h=>zy Int.ofNat (zw h),fun h=>Int.ofNat.inj h▸jA x⟩
  |negSucc y=>exact⟨fun h=>(nomatch h),fun h=>(nomatch h)⟩
 |negSucc x=>induction b using jV with
  |ofNat y=>exact⟨fun h=>(nomatch h),fun h=>(nomatch h)⟩
  |negSucc y=>exact⟨fun h=>zy Int.negSucc (zw h),fun h=>Int.negSucc.inj h▸jA x⟩
theorem Ff(a b:Int):ltI a b=decide (a < b):=by
 refine Nv ?_
 induction a using jV with
 |ofNat x=>induction b using jV with
  |ofNat y=>exact⟨fun h=>Jp.mpr (zC h),fun h=>zD (Jp.mp h)⟩
  |negSucc y=>exact⟨fun h=>(nomatch h),fun h=>absurd (Int.lt_trans h (j7 y)) (JF.mpr (jo x))⟩
 |negSucc x=>induction b using jV with
  |ofNat y=>exact⟨fun _=>Int.lt_of_lt_of_le (j7 x) (jo y),fun _=>rfl⟩
  |negSucc y=>
   rw[Int.negSucc_eq,Int.negSucc_eq]
   exact⟨fun h=>Int.neg_lt_neg (Int.add_lt_add_right (Jp.mpr (zC h)) 1),fun h=>zD (Jp.mp (Int.lt_of_add_lt_add_right (Int.lt_of_neg_lt_neg h)))⟩
theorem BX(x y:Txt):((⟨x.toArray⟩:Str)==⟨y.toArray⟩)=Bo x y:=by
 rw[Gm]
 by_cases h:x=y
 ·subst h;simp
 ·have:¬((⟨x.toArray⟩:Str)=⟨y.toArray⟩):=fun e=>h (by simpa using e)
  simp[h]
section
variable {c:Cx}{f:Fx}{A:Around}{d:Nat}{R R':Rec}{σ σ':St}{s s':Shared}{E:Value→Shared→Prop}{m:Str→Option Value}{led:List (Addr×Obj)}{rx:Rx}
theorem Bw(x:Txt):(⟨x.toArray⟩:Str).length=x.length:=by simp[Str.length]
theorem Uv{x v:Val}(h:bC x=some v):(∃t,x=.str t∧v=.int (.ofNat t.length))∨∃xs,x=.seq false xs∧v=.int (.ofNat xs.length):=by
 induction x using Val.casesOn with
 |str t=>exact .inl ⟨t,rfl,(ze h).symm⟩
 |seq _ _=>exact .inr (Aa (bL h) fun xs e q=>⟨xs,e,(ze q).symm⟩)
 |_=>exact nz h
theorem Wt{n:Nat}(h:n≤AJ):(n:Int) < 2 ^ 63:=by have:=Bk;lia
theorem d8(r:Ap c f R σ s.heap){x v:Val}{rv:Value}(hx:VH c R s.heap x rv)(h:Cb rx .len x=some v):AV c f A R σ s (call (.builtin "len") [rv]) v:=by
 refine(Uv h).elim (fun h=>Aa h fun t ex ev=>?_) fun h=>Aa h fun xs ex ev=>?_
 ·rw[ex]at hx
  rw[ev]
  refine Aa hx.ZG fun tk hl er=>?_
  rw[er]
  exact AV.plain r fun E Q hq=>len_str (by rw[Bw];exact Int.not_le.mpr (Wt hl)) (by rw[Bw];exact hq _ _ (.int _ _))
 ·rw[ex]at hx
  rw[ev]
  refine Av r fun m led r0=>?_
  refine AD (hx.seq r0) fun a vs n er hg hl hs=>?_
  rw[er]
  have e:vs.toArray.size=xs.length:=hs.length
  exact AV.plain ⟨m,led,r0⟩ fun E Q hq=>len_list (Ai hg) (by rw[e];exact Wt hl) (by rw[e];exact hq _ _ (.int _ _))
theorem eg(r:Ap c f R σ s.heap){x v:Val}{rv:Value}(hx:VH c R s.heap x rv)(h:Cb rx .neg x=some v):AV c f A R σ s (unaryOp .USub rv) v:=by
 refine Aa (bI h) fun i ex ev=>?_
 rw[ex]at hx
 rw[←ze ev]
 refine zg (hx.v rfl).inv fun t er=>?_
 rw[er]
 exact AV.plain r fun E Q hq=>P.neg_int (hq _ _ (.int _ _))
theorem Y2(r:Ap c f R σ s.heap){a b:Int}{t u:Tok}:AV c f A R σ s (binaryOp .Add (.int a t) (.int b u)) (.int (a+b)):=AV.plain r fun _ _ hq=>P.add_int (hq _ _ (.int _ _))
theorem Zb(r:Ap c f R σ s.heap){a b:Int}{t u:Tok}:AV c f A R σ s (binaryOp .Sub (.int a t) (.int b u)) (.int (a - b)):=AV.plain r fun _ _ hq=>P.sub_int (hq _ _ (.int _ _))
theorem Y4(r:Ap c f R σ s.heap){a b:Txt}{t u:Tok}(h:a.length+b.length≤AJ):AV c f A R σ s (binaryOp .Add (.str ⟨a.toArray⟩ t) (.str ⟨b.toArray⟩ u)) (.str (a++b)):=by
 refine AV.plain r fun E Q hq=>add_str (fun t' tk=>?_) (by rw[Bw,Bw];exact h)
 have:=hq (.str ⟨(a++b).toArray⟩ t') tk (.str _ _ (by rw[zd];exact h))
 have e:((⟨a.toArray⟩:Str)++⟨b.toArray⟩:Str)=⟨(a++b).toArray⟩:=by
  show Str.append _ _=_
  unfold Str.append
  simp
 rw[e];exact this
theorem Y3(r:Ap c f R σ s.heap){xs ys:List Val}{ra rb:Value}(ha:VH c R s.heap (.seq false xs) ra)(hb:VH c R s.heap (.seq false ys) rb)(h:xs.length+ys.length≤AJ):
  AV c f A R σ s (binaryOp .Add ra rb) (.seq false (xs++ys)):=by
 refine AV.made r fun E Q m led r0 hq=>?_
 refine AD (ha.seq r0) fun a vs n hq3 hg hl hs=>?_;subst hq3
 refine AD (hb.seq r0) fun b us n' hq3 hg' hl' hs'=>?_;subst hq3
 refine add_lists r0.F r0.N (Ai hg) (Ai hg') (fun h' F N=>?_) (by rw[hs.length,hs'.length];exact h)
 refine hq _ _ _ h' s.toks F N (fun p hp=>jD (r0.N p hp).1) fun R' le hz=>?_
 exact .seq (.of (.inr hz)) (by rw[zd];exact h) (AU.append (Vs.up le hs) (Vs.up le hs'))
theorem Y7(r:Ap c f R σ s.heap){a:Int}{n:Nat}{t u:Tok}:AV c f A R σ s (binaryOp .Mod (.int a t) (.int (.ofNat (n+1)) u)) (.int (Int.fmod a (.ofNat (n+1)))):=
 AV.plain r fun _ _ hq=>mod_int' (by intro e;cases e) (hq _ _ (.int _ _))
theorem G5{op:CmpOp}{b:Bool}(r:Ap c f R σ s.heap){x y:Int}{t u:Tok}(h:match op with | .Eq=>b=FJ x y | .NotEq=>b= !(FJ x y) | .Lt=>b=ltI x y | .LtE=>b= !(ltI y x) | .Gt=>b=ltI y x | .GtE=>b= !(ltI x y) |_=>False):
  AV c f A R σ s (compareOp op (.int x t) (.int y u)) (.bool b):=by
 refine AV.plain r fun E Q hq=>?_
 cases op with
 |Eq=>subst h;refine eq_int ?_;rw[Ek]at hq;exact hq _ _ (.bool _)
 |NotEq=>subst h;refine ne_int ?_;rw[Ek]at hq;exact hq _ _ (.bool _)
 |Lt=>subst h;refine lt_int ?_;rw[Ff]at hq;exact hq _ _ (.bool _)
 |LtE=>subst h;refine le_int ?_;rw[Ff,←decide_not]at hq;simp only[JF]at hq;exact hq _ _ (.bool _)
 |Gt=>subst h;refine gt_int ?_;rw[Ff]at hq;exact hq _ _ (.bool _)
 |GtE=>subst h;refine ge_int ?_;rw[Ff,←decide_not]at hq;simp only[JF]at hq;exact hq _ _ (.bool _)
 |_=>exact h.elim
theorem d6(r:Ap c f R σ s.heap){x y:Txt}{t u:Tok}:AV c f A R σ s (compareOp .Eq (.str ⟨x.toArray⟩ t) (.str ⟨y.toArray⟩ u)) (.bool (Bo x y)):=by
 refine AV.plain r fun E Q hq=>PyProof.Rows.eq_str ?_
 rw[BX]
 exact hq _ _ (.bool _)
theorem ee(r:Ap c f R σ s.heap){x y:Txt}{t u:Tok}:AV c f A R σ s (compareOp .NotEq (.str ⟨x.toArray⟩ t) (.str ⟨y.toArray⟩ u)) (.bool !(Bo x y)):=by
 refine AV.plain r fun E Q hq=>PyProof.Rows.ne_str ?_
 have:((⟨x.toArray⟩:Str) !=⟨y.toArray⟩)= !(Bo x y):=by rw[←BX];rfl
 rw[this]
 exact hq _ _ (.bool _)
theorem d4(r:Ap c f R σ s.heap){x y:Bool}:AV c f A R σ s (compareOp .Eq (.bool x) (.bool y)) (.bool (cond x y (!y))):=by
 refine AV.plain r fun E Q hq=>eq_bool ?_
 have:(x==y)=cond x y (!y):=by induction x using za <;>induction y using za <;>rfl
 rw[this];exact hq _ _ (.bool _)
end
end
end Ag
end
namespace Ag
section
open PySem PySem.W PySem.Calls PyProof.Rows PySem.StrLaws PySem.Builtin PySem.Builtin.Str
theorem neg_add{k n:Nat}(h:k+1≤n):Int.negSucc k+(n:Int)=((n - (k+1):Nat):Int):=Int.subNatNat_of_le h
theorem neg_sub{k n:Nat}(h:n < k+1):Int.negSucc k+(n:Int) < 0:=by
 show Int.subNatNat n (k+1) < 0
 rw[Int.subNatNat_of_lt h];exact j7 _
theorem Qc{α:Type}{t:List α}{i:Int}{x:α}(h:Mi t i=some x):∃j,j < t.length∧t[j]? =some x∧((0≤i∧i=(j:Int))∨(i < 0∧i+(t.length:Int)=(j:Int))):=by
 induction i using jV with
 |ofNat n=>
  have h':t[n]? =some x:=h
  exact⟨n,(zn.mp h').1,h',.inl ⟨jo n,rfl⟩⟩
 |negSucc n=>
  have h:cond (Nat.blt n t.length) t[t.length - (n+1)]? none=some x:=h
  induction q:Nat.blt n t.length using za with
  |false=>rw[q]at h;exact nomatch h
  |true=>
   rw[q]at h
   exact⟨t.length - (n+1),(zn.mp h).1,h,.inr ⟨j7 n,neg_add (zC q)⟩⟩
theorem KM{α:Type}{t:List α}{i:Int}{x:α}(h:Mi t i=some x)(hl:t.length≤AJ): -(2 ^ 63:Int)≤i∧i < 2 ^ 63:=by
 have:=Bk
 refine BZ (Qc h) fun j hj _ ho=>?_
 have h2:i+(t.length:Int)=(j:Int)∨i=(j:Int):=ho.elim (fun h=>.inr h.2) fun h=>.inl h.2
 constructor <;>lia
theorem Vl{m len:Nat}(h:m < len):(if(decide (0≤(m:Int)) && decide ((m:Int) < (len:Int)))=true then some ((m:Int)).toNat else none)=some m:=
 z5 (zH.mpr ⟨ja (jo m),ja (Jp.mpr h)⟩)
theorem Qd{α:Type}{t:List α}{i:Int}{x:α}(h:Mi t i=some x):∃j,seqIndex? i t.length=some j∧t[j]? =some x∧((0≤i∧i=(j:Int))∨(i < 0∧i+(t.length:Int)=(j:Int))):=by
 refine BZ (Qc h) fun j hj hx ho=>⟨j,?_,hx,ho⟩
 show(if(decide (0≤(if i < 0 then i+(t.length:Int)else i)) && decide ((if i < 0 then i+(t.length:Int)else i) < (t.length:Int)))=true then some (if i < 0 then i+(t.length:Int)else i).toNat else none)=_
 have e:(if i < 0 then i+(t.length:Int)else i)=(j:Int):=ho.elim (fun h=>(zR (JF.mpr h.1)).trans h.2) fun h=>(z5 h.1).trans h.2
 rw[e];exact Vl hj
theorem Ga(slice:PySem.Expr)(o i:Value):∃ops,subscripted slice false o i=operate ops (getItem o i):=by
 cases slice with
 |Slice a b st p=>induction st using zh <;>exact⟨_,rfl⟩
 |_=>exact⟨_,rfl⟩
section
variable {c:Cx}{f:Fx}{A:Around}{d:Nat}{R R':Rec}{σ σ':St}{s s':Shared}{E:Value→Shared→Prop}{m:Str→Option Value}{led:List (Addr×Obj)}{rx:Rx}
theorem Cc{value slice:PySem.Expr}{o i:Value}{T id:String}{Q:Value→Shared→Prop}(hT:s.TypeIs o T)(hs:typeLookup (.type T) "__getitem__"=pure (some (.builtin id)))
  (h:wpAny (model c.prog c.w) A (getItem o i) Q E s):wpAny (model c.prog c.w) A (subscriptTail value slice o i) Q E s:=by
 refine zg (Ga slice o i) fun ops e=>?_
 exact tail_any hT hs h e
theorem UO:1≤AJ:=by decide
theorem Yv{i:Int}{n j:Nat}(h:i+(n:Int)=(j:Int)): -(n:Int)≤i:=by lia
theorem Ud{x v:Val}{i:Int}(h:X8 x i=some v):(∃t ch,x=.str t∧Mi t i=some ch∧v=.str [ch])∨∃xs,x=.seq false xs∧Mi xs i=some v:=by
 induction x using Val.casesOn with
 |str t=>exact .inl (Aa (Np h) fun ch e q=>⟨t,ch,rfl,e,(ze q).symm⟩)
 |seq _ _=>exact .inr (bL h)
 |_=>exact nz h
theorem WI(r:Ap c f R σ s.heap){x v:Val}{rv:Value}{i:Int}{u:Tok}{value slice:PySem.Expr}(hx:VH c R s.heap x rv)(h:X8 x i=some v):
  AV c f A R σ s (subscriptTail value slice rv (.int i u)) v:=by
 refine(Ud h).elim (fun h=>Aq h fun t ch ex ha ev=>?_) fun h=>Aa h fun xs ex h'=>?_
 ·rw[ex]at hx
  refine Aa hx.ZG fun tk hl er=>?_
  rw[er,ev]
  refine AV.plain r fun E Q hq=>?_
  refine Cc (Jw _ _ _) slot_str_getitem.lookup ?_
  refine BZ (Qd ha) fun j hj hx ho=>?_
  exact PyProof.Rows.getItem_str (c:=ch) (by have b:=KM ha hl;rw[zU (JF.mpr b.1),zU (Int.not_le.mpr b.2)];rfl) (by rw[Bw,hj];exact z8.trans hx) (hq _ _ (.str [ch] _ UO))
 ·rw[ex]at hx
  refine Av r fun m led r0=>?_
  refine AD (hx.seq r0) fun a vs n er hg hl hs=>?_
  rw[er]
  refine BZ (Qd h') fun j hj hxj ho=>?_
  refine Aw (KM h' hl) fun b1 b2=>?_
  refine Aa (hs.get hxj) fun rv e1 e2=>?_
  have e1:vs.toArray[j]? =some rv:=z8.trans e1
  refine AV.plain ⟨m,led,r0⟩ fun E Q hq=>?_
  have hq':=hq rv s.toks e2
  have hsz:vs.toArray.size=xs.length:=hs.length
  refine Cc (Ai hg).typeIs slot_list_getitem.lookup ?_
  refine ho.elim (fun h=>?_) fun h=>?_
  ·exact wpAny_getItem_list (Ai hg) h.1 b2 (by rw[h.2];exact e1) hq'
  ·exact wpAny_getItem_list_neg (Ai hg) h.1 (by rw[hsz];exact Yv h.2) b1 (by rw[hsz,h.2];exact e1) hq'
theorem JV(x y:Str)(i j:Int)(t u v v':Tok):Gives («str.rfind» ⟨[.str x t,.str y u,.int i v,.int j v'],[]⟩) (.int (match lastOccurrence x y (fromIndex x.length i) (min (fromIndex x.length j) x.length)with |some k=>(k:Int) |none=> -1)):=by
 show Gives (match lastOccurrence x y (fromIndex x.length i) (min (fromIndex x.length j) x.length)with |some k=>retInt k |none=>(do rule "str.rfind.not-found";retInt (-1))) _
 induction lastOccurrence x y (fromIndex x.length i) (min (fromIndex x.length j) x.length)using zh with
 |none=>exact .rule (.of_eq rfl)
 |some k=>exact .of_eq rfl
theorem CS(n a:Nat):fromIndex n (Int.ofNat a)=a:=by
 show(max 0 (if(a:Int) < 0 then _ else(a:Int))).toNat=a
 rw[zR (JF.mpr (jo a)),Jz (jo a)];rfl
theorem GC(n:Nat)(b:Int):min (fromIndex n b) n=clip n b:=by
 induction b using jV with
 |ofNat k=>rw[CS];rfl
 |negSucc k=>
  show min (max 0 (if Int.negSucc k < 0 then Int.negSucc k+(n:Int)else _)).toNat n=n - (k+1)
  rw[z5 (j7 k)]
  by_cases h:k+1≤n
  ·rw[neg_add h,Jz (jo _)];exact jz (j9 _ _)
  ·rw[Int.max_eq_left (Int.le_of_lt (neg_sub (Jk h))),Nat.sub_eq_zero_of_le (Jl h)];exact Jj n
theorem KK(x y i j:Value):argsOk "str.rfind" ⟨[x,y,i,j],[]⟩:=by unfold argsOk;kernel_rfl
theorem X4(t x:Txt)(a:Nat)(k1 k2 k3:Tok):Gives («str.find» ⟨[.str ⟨t.toArray⟩ k1,.str ⟨x.toArray⟩ k2,.int (.ofNat a) k3],[]⟩) (.int (H5 x t a t.length)):=by
 have h:=gives_str_find_from ⟨t.toArray⟩ ⟨x.toArray⟩ (Int.ofNat a) k1 k2 k3
 rw[CS,Bw]at h
 exact Eq.subst (motive:=fun z=>Gives _ (Made.int z)) (Pb t x a t.length) h
theorem T9(t x:Txt)(a:Nat)(b:Int)(k1 k2 k3 k4:Tok):Gives («str.rfind» ⟨[.str ⟨t.toArray⟩ k1,.str ⟨x.toArray⟩ k2,.int (.ofNat a) k3,.int b k4],[]⟩) (.int (A4 x t a (clip t.length b))):=by
 have h:=JV ⟨t.toArray⟩ ⟨x.toArray⟩ (Int.ofNat a) b k1 k2 k3 k4
 rw[CS,Bw,GC]at h
 exact Eq.subst (motive:=fun z=>Gives _ (Made.int z)) (Lk t x a (clip t.length b)) h
theorem U8(r:Ap c f R σ s.heap){t x:Txt}{a:Nat}{k1 k2 k3:Tok}:AV c f A R σ s (call (.builtin "str.find") [.str ⟨t.toArray⟩ k1,.str ⟨x.toArray⟩ k2,.int (.ofNat a) k3]) (.int (H5 x t a t.length)):=
 AV.plain r fun _ _ hq=>call_gives F.slot_str_find (Jw _ _ _) F.entry_str_find (F.args_str_find_3 _ _ _) (X4 t x a k1 k2 k3) (hq _ _ (.int _ _))
theorem Sg(r:Ap c f R σ s.heap){t x:Txt}{a:Nat}{b:Int}{k1 k2 k3 k4:Tok}:
  AV c f A R σ s (call (.builtin "str.rfind") [.str ⟨t.toArray⟩ k1,.str ⟨x.toArray⟩ k2,.int (.ofNat a) k3,.int b k4]) (.int (A4 x t a (clip t.length b))):=
 AV.plain r fun _ _ hq=>call_gives F.slot_str_rfind (Jw _ _ _) F.entry_str_rfind (KK _ _ _ _) (T9 t x a b k1 k2 k3 k4) (hq _ _ (.int _ _))
end
end
section
open PySem PySem.W PySem.Calls PyProof.Rows PySem.StrLaws PySem.Builtin PySem.Builtin.Str
inductive CG:Val→Option (Int×Tok)→Prop
 |none:CG .none none
 |int (i:Int) (t:Tok):CG (.int i) (some (i,t))
theorem part_of{c:Cx}{R:Rec}{x:Val}{rv:Value}{a:Int}(h:c.V R x rv)(hp:CL x=some a):∃p,CG x p∧rv=partValue p:=by
 induction x using Val.casesOn with
 |none=>exact⟨none,.none,h.inv⟩
 |int i=>exact zg h.inv fun t e=>⟨some (i,t),.int i t,e⟩
 |_=>exact nomatch hp
theorem CG.Rd{x:Val}{p:Option (Int×Tok)}(h:CG x p):IsPart (partValue p) (p.map (·.1)):=by
 induction h using CG.casesOn with
 |none=>exact .none
 |int i t=>exact .int i t
theorem Lb{n:Nat}{x:Val}{i:Int}(h:Ca n x=some i):∃a,CL x=some a:=by
 induction x using Val.casesOn with
 |none=>exact⟨0,rfl⟩
 |int i=>exact⟨i,rfl⟩
 |_=>exact nomatch h
theorem Wm(i:Int)(n:Nat):max 0 (min (if i < 0 then i+(n:Int)else i) (n:Int))=((clip n i:Nat):Int):=by
 induction i using jV with
 |ofNat k=>
  show max 0 (min (if(k:Int) < 0 then _ else(k:Int)) (n:Int))=((min k n:Nat):Int)
  rw[zR (JF.mpr (jo k))]
  induction Nat.le_total k n using jY with
  |inl h=>rw[jz h,Int.min_eq_left (Int.ofNat_le.mpr h),Jz (jo k)]
  |inr h=>rw[JI h,Int.min_eq_right (Int.ofNat_le.mpr h),Jz (jo n)]
 |negSucc k=>
  rw[z5 (j7 k)]
  show _=((n - (k+1):Nat):Int)
  by_cases h:k+1≤n
  ·rw[neg_add h,Int.min_eq_left (Int.ofNat_le.mpr (j9 _ _)),Jz (jo _)]
  ·rw[Nat.sub_eq_zero_of_le (Jl h)]
   exact Int.max_eq_left (Int.le_trans (Int.min_le_left _ _) (Int.le_of_lt (neg_sub (Jk h))))
theorem IZ(n:Nat)(i:Int):clip n i≤n:=by
 induction i using jV with
 |ofNat k=>exact Nat.min_le_right k n
 |negSucc k=>exact j9 _ _
noncomputable def cl(n:Nat)(p:Option Int)(d:Int):Int:=match p with
 |none=>d
 |some i=>max 0 (min (if i < 0 then i+(n:Int)else i) (n:Int))
theorem Wl{x:Val}{p:Option (Int×Tok)}{a:Int}{n:Nat}(h:CG x p)(ha:CL x=some a):cl n (p.map (·.1)) 0=((clip n a:Nat):Int):=by
 induction h using CG.casesOn with
 |none=>rw[←ze ha];exact zy Int.ofNat (Jj n).symm
 |int i t=>rw[←ze ha];exact Wm _ n
theorem Wk{x:Val}{p:Option (Int×Tok)}{b:Int}{n:Nat}(h:CG x p)(hb:Ca n x=some b):cl n (p.map (·.1)) (n:Int)=((clip n b:Nat):Int):=by
 induction h using CG.casesOn with
 |none=>rw[←ze hb];exact zy Int.ofNat (Nat.min_self n).symm
 |int i t=>rw[←ze hb];exact Wm _ n
theorem JY{lo hi:Val}{pl pu:Option (Int×Tok)}{a b:Int}{n:Nat}(hl:CG lo pl)(hu:CG hi pu)(ha:CL lo=some a)(hb:Ca n hi=some b):
  strSliceIndices (pl.map (·.1)) (pu.map (·.1)) 1 n=sliceRange ((clip n a:Nat):Int) ((clip n b:Nat):Int) 1:=by
 rw[←Wl hl ha,←Wk hu hb];rfl
theorem KP{lo hi:Val}{pl pu:Option (Int×Tok)}{a b:Int}{n:Nat}(hl:CG lo pl)(hu:CG hi pu)(ha:CL lo=some a)(hb:Ca n hi=some b):
  sliceBounds (pl.map (·.1)) (pu.map (·.1)) none n=(((clip n a:Nat):Int),((clip n b:Nat):Int),1):=by
 rw[←Wl hl ha,←Wk hu hb];rfl
theorem FU{α:Type}(t:List α)(a b:Nat):(sliceOf t a b).Sublist t:=(List.drop_sublist a _).trans (List.take_sublist b t)
theorem Hb{α:Type}(t:List α){a b:Nat}(hb:b≤t.length):(sliceOf t a b).length=b - a:=by
 unfold sliceOf
 rw[jC,ji,jz hb]
theorem Ha{α:Type}(t:List α)(a b:Nat):(sliceOf t a b).length≤t.length:=(FU t a b).length_le
theorem AU.sliceOf{PC:Addr}{Z:Addr→Obj→Prop}{ρ:List Addr}{xs:List Val}{vs:List Value}(h:AU PC Z ρ xs vs)(a b:Nat):AU PC Z ρ (Ag.sliceOf xs a b) (Ag.sliceOf vs a b):=
 (h.take b).drop a
section
variable {c:Cx}{f:Fx}{A:Around}{d:Nat}{R R':Rec}{σ σ':St}{s s':Shared}{E:Value→Shared→Prop}{m:Str→Option Value}{led:List (Addr×Obj)}{rx:Rx}
noncomputable abbrev Ew(l u:Value):Obj:={cls:=.type "slice",data:=.fields #[l,u,.none]}
theorem Rel.push(r:Rel c f R σ s.heap m led)(o:Obj):Rel c f R σ (s.heap.push o) m led:=r.heap (r.F.push o) (r.N.pushKeep o)
theorem Ap.push(r:Ap c f R σ s.heap)(o:Obj):Ap c f R σ (s.heap.push o):=by
 refine Av r ?_;clear r;intro m led r
 exact⟨m,led,r.push o⟩
theorem Za(r:Ap c f R σ s.heap){t:Txt}{tk:Tok}{lo hi:Val}{vl vu:Value}{a b:Int}{value:PySem.Expr}{le ue:Option PySem.Expr}{p:Pos}(hl:t.length≤AJ)
  (hlo:c.V R lo vl) (hhi:c.V R hi vu) (ha:CL lo=some a) (hb:Ca t.length hi=some b):
  AV c f A R σ {s with heap:=s.heap.push (Ew vl vu)} (subscriptTail value (.Slice le ue none p) (.str ⟨t.toArray⟩ tk) (.ref s.heap.objs.size)) (.str (slice t a b)):=by
 refine Aa (part_of hlo ha) fun pl Pl hq2=>?_;subst hq2
 refine zg (Lb hb) fun b' hb'=>?_
 refine Aa (part_of hhi hb') fun pu Pu hq2=>?_;subst hq2
 refine AV.plain (s:={s with heap:=s.heap.push (Ew (partValue pl) (partValue pu))}) (r.push _) fun E Q hq=>?_
 refine Cc (Jw _ _ _) slot_str_getitem.lookup ?_
 refine wpAny_getItem_str_slice (l:=pl) (u:=pu) (st:=none) ⟨_,Ja _ rfl,rfl,rfl⟩ rfl ?_
 have hidx:=JY Pl Pu ha hb
 have hpick:(slicePicked ⟨t.toArray⟩ pl pu none).filterMap ((⟨t.toArray⟩:Str).cps[·]?)=slice t a b:=by
  show(strSliceIndices _ _ 1 (Str.length ⟨t.toArray⟩)).filterMap _=_
  rw[Bw,hidx]
  exact G7 t _ rfl (IZ _ _)
 unfold sliceMade
 split
 ·rename _=>h
  have h2:=eq_of_beq (zH.mp h).2
  have hlen:(slicePicked ⟨t.toArray⟩ pl pu none).length=(slice t a b).length:=by
   show(strSliceIndices _ _ 1 (Str.length ⟨t.toArray⟩)).length=_
   rw[Bw,hidx,LG,jb,List.length_range]
   exact(Hb t (IZ _ _)).symm
  have hs:slice t a b=t:=(FU t _ _).eq_of_length (hlen.symm.trans h2)
  exact hq (.str ⟨t.toArray⟩ tk) s.toks (by rw[hs];exact .str _ _ hl)
 ·rw[hpick]
  have hle:(slice t a b).length≤AJ:=zp (Ha _ _ _) hl
  exact⟨hle,hq _ _ (.str _ _ hle)⟩
theorem eQ(r0:Rel c f R σ s.heap m led){xs:List Val}{rv:Value}{lo hi:Val}{vl vu:Value}{a b:Int}{value:PySem.Expr}{le ue:Option PySem.Expr}{p:Pos}
  (hx:VH c R s.heap (.seq false xs) rv) (hlo:c.V R lo vl) (hhi:c.V R hi vu) (ha:CL lo=some a) (hb:Ca xs.length hi=some b) {Q:Value→Shared→Prop}
  (hq:∀R' rv s' led',R.le R'→An s s'→Rel c f R' σ s'.heap m led'→c.V R' (.seq false (slice xs a b)) rv→Q rv s'):
  wpAny (model c.prog c.w) A (subscriptTail value (.Slice le ue none p) rv (.ref s.heap.objs.size)) Q E {s with heap:=s.heap.push (Ew vl vu)}:=by
 refine Aa (part_of hlo ha) fun pl Pl hq2=>?_;subst hq2
 refine zg (Lb hb) fun b' hb'=>?_
 refine Aa (part_of hhi hb') fun pu Pu hq2=>?_;subst hq2
 refine AD (hx.seq r0) fun l vs n hq3 hg hl hs=>?_;subst hq3
 have hsz:vs.toArray.size=xs.length:=hs.length
 refine Cc (Heap.IsList.typeIs (s:={s with heap:=s.heap.push (Ew (partValue pl) (partValue pu))}) ((Ai hg).push _)) list_getitem_lookup (wpAny_getItem_list_slice ((Ai hg).push _) (Heap.IsSliceOf.new ..) Pl.Rd Pu.Rd .none (fun h=>nomatch h) ?_ (by rw[hsz,←A6];exact hl))
 have N1:=News.push (r0.F.push (Ew (partValue pl) (partValue pu))) (r0.N.grown fun _ _ e=>z6 _ e) {cls:=.type "list",data:=.seq (slicePick vs.toArray (pl.map (·.1)) (pu.map (·.1)) none)}
 rw[Heap.size_push]at N1
 show Q (.ref (s.heap.push _).objs.size) _
 rw[Heap.size_push]
 have F:=(r0.F.push (Ew (partValue pl) (partValue pu))).push {cls:=.type "list",data:=.seq (slicePick vs.toArray (pl.map (·.1)) (pu.map (·.1)) none)}
 have hpick:slicePick vs.toArray (pl.map (·.1)) (pu.map (·.1)) none=(sliceOf vs (clip xs.length a) (clip xs.length b)).toArray:=by
  unfold slicePick
  rw[hsz,KP Pl Pu ha hb]
  rw[G7 vs _ rfl (by rw[hs.length];exact IZ _ _)]
 rw[hpick]at N1 F ⊢
 refine Hm (r0.frozen F N1 (fun p hp=>jF (jD (r0.N p hp).1))) fun R' le' r' hz _ _=>?_
 exact hq R' _ _ _ le' AK r' (.seq (.of (.inr hz)) (zp (Ha _ _ _) hl) (AU.sliceOf (Vs.up le' hs) _ _))
theorem Y9(r:Ap c f R σ s.heap){xs:List Val}{rv:Value}{lo hi:Val}{vl vu:Value}{a b:Int}{value:PySem.Expr}{le ue:Option PySem.Expr}{p:Pos}
  (hx:VH c R s.heap (.seq false xs) rv) (hlo:c.V R lo vl) (hhi:c.V R hi vu) (ha:CL lo=some a) (hb:Ca xs.length hi=some b):
  AV c f A R σ {s with heap:=s.heap.push (Ew vl vu)} (subscriptTail value (.Slice le ue none p) rv (.ref s.heap.objs.size)) (.seq false (slice xs a b)):=fun E Q hq=>
 Av r fun m led r0=>eQ r0 hx hlo hhi ha hb fun R' rv s' led' le sm r' hv=>hq R' rv s' le ⟨sm.gens,sm.drawn,sm.os,sm.tk⟩ ⟨m,led',r'⟩ hv
end
end
section
open PySem PySem.StrLaws PySem.Builtin PySem.Builtin.Str
noncomputable def BG(x t:Txt):(k n free:Nat)→List Nat
 |_,0,_=>[]
 |k,n+1,free=>if free≤k∧Dg x t t.length k=true then k::BG x t (k+1) n (k+x.length)else BG x t (k+1) n free
theorem MG(t x:Txt)(n:Nat):∀(k free:Nat) (arr:Array Nat),arr.size≤k→k+n=t.length+1→
  (forIn (List.range' k n) (arr,free) (occBody ⟨t.toArray⟩ ⟨x.toArray⟩ t.length (t.length+1))).run.fst.toList=arr.toList++BG x t k n free:=by
 induction n with
 |zero=>exact fun _ _ _ _ _=>(zE _).symm
 |succ n ih=>
  intro k free arr ha hk
  have hk':k+1+n=t.length+1:=by rw[←hk,jM];rfl
  rw[List.range'_succ]
  show _=arr.toList++(if free≤k∧Dg x t t.length k=true then _ else _)
  by_cases hc:free≤k∧Dg x t t.length k=true
  ·have h1:=(ED t x t.length k).mpr hc.2
   rw[J8 ⟨⟨⟨jm ha (Nat.lt_of_lt_of_eq (Jt (jO n)) hk),hc.1⟩,h1.1⟩,h1.2⟩,z5 hc]
   refine(ih (k+1) (k+x.length) (arr.push k) (by rw[Array.size_push];exact z3 ha) hk').trans ?_
   rw[Array.toList_push,zl];rfl
  ·rw[MH fun h=>hc ⟨h.1.1.2,(ED t x t.length k).mp ⟨h.1.2,h.2⟩⟩,zR hc]
   exact ih (k+1) free arr (z7 ha) hk'
theorem UM(t x:Txt):occurrences ⟨t.toArray⟩ ⟨x.toArray⟩ 0 (⟨t.toArray⟩:Str).length ((⟨t.toArray⟩:Str).length+1)=BG x t 0 (t.length+1) 0:=by
 rw[occ_eq]
 exact MG t x (t.length+1) 0 0 #[] (zu _) (jr _)
noncomputable def Gz(t z:Txt)(w:Nat):List Nat→Nat→Txt
 |[],st=>(t.take t.length).drop st
 |c::cs,st=>(t.take c).drop st++z++Gz t z w cs (c+w)
theorem WN{t:Txt}{a b:Nat}:(strSub ⟨t.toArray⟩ a b).cps.toList=(t.take b).drop a:=
 Array.toList_extract.trans (List.extract_eq_take_drop.trans JO.symm)
theorem OV(t z:Txt)(w:Nat)(cs:List Nat):∀(st:Nat) (acc:Array Nat),
  ((((cs.map (· +w)).zip (cs.drop 1++[t.length])).map fun(p:Nat×Nat)=>strSub ⟨t.toArray⟩ p.1 p.2).foldl (fun acc p=>acc++(⟨z.toArray⟩:Str).cps++p.cps) (acc++(strSub ⟨t.toArray⟩ st (cs.headD t.length)).cps)).toList
   =acc.toList++Gz t z w cs st:=by
 induction cs with
 |nil=>exact fun st acc=>JQ.trans (zy (acc.toList++·) WN)
 |cons c cs ih=>
  intro st acc
  have h:=ih (c+w) (acc++(strSub ⟨t.toArray⟩ st c).cps++z.toArray)
  rw[JQ,JQ,WN,zl,zl,←zl ((t.take c).drop st)]at h
  induction cs using zo with
  |nil=>exact h
  |cons c' cs'=>
   refine Eq.trans ?_ h
   show Array.toList (List.foldl _ _ (strSub ⟨t.toArray⟩ (c+w) c'::_))=_
   rw[List.foldl_cons];rfl
theorem Q0(t z:Txt)(w:Nat)(cs:List Nat):(glued ⟨z.toArray⟩ (partsBetween ⟨t.toArray⟩ cs w)).cps.toList=Gz t z w cs 0:=by
 have h:=OV t z w cs 0 #[]
 rw[Array.empty_append]at h
 induction cs using zo <;>exact h
theorem Nn(x t:Txt)(k:Nat)(hk:k≤t.length):Dg x t t.length k=pre? x (t.drop k):=by
 show cond (Nat.ble (k+x.length) t.length) (pre? x (t.drop k)) false=_
 induction q:pre? x (t.drop k)using za with
 |false=>induction Nat.ble (k+x.length) t.length using za <;>rfl
 |true=>
  have:=N7 q
  rw[jC]at this
  rw[zD (Jx hk this)];rfl
theorem Cr(t z:Txt)(o:Nat)(x:Txt):∀(n k free:Nat),k+n=t.length+1→free≤t.length→
  Gz t z (o::x).length (BG (o::x) t k n free) free=(t.take k).drop free++AF (o::x) z (free - k) (t.drop k)
 |0,k,free,hk,hf=>by
  have hk':k=t.length+1:=by lia
  subst hk'
  rw[show t.drop (t.length+1)=[]from jn (by lia)]
  simp only[BG,Gz,AF,zE]
  rw[jU (zu _),jU (zP _)]
 |n+1,k,free,hk,hf=>by
  unfold BG
  have hkl:k≤t.length:=by lia
  by_cases hkn:k=t.length
  ·subst hkn
   have hno:¬(free≤t.length∧Dg (o::x) t t.length t.length=true):=by
    intro h
    have:=h.2
    rw[Nn _ _ _ (zu _),jn (zu _)]at this
    cases this
   rw[zR hno,Cr t z o x n (t.length+1) free (by lia) hf]
   rw[jn (i:=t.length+1) (by lia),jn (i:=t.length) (zu _)]
   simp only[AF,zE]
   rw[jU (zu _),jU (zP _)]
  ·have hlt:k < t.length:=by lia
   obtain⟨ch,hch⟩:∃ch,t.drop k=ch::t.drop (k+1):=⟨t[k],by rw[j3 hlt]⟩
   have htk:t.take (k+1)=t.take k++[ch]:=by
    have hg:t[k]=ch:=by
     rw[j3 hlt]at hch
     exact(jx hch).1
    rw[List.take_succ_eq_append_getElem hlt,hg]
   by_cases hfk:free≤k
   ·have h0:free - k=0:=by lia
    rw[h0,hch]
    have hat:=Nn (o::x) t k hkl
    rw[hch]at hat
    by_cases hat':Dg (o::x) t t.length k=true
    ·rw[z5 ⟨hfk,hat'⟩]
     have hle:k+(o::x).length≤t.length:=by
      unfold Dg at hat'
      rw[bQ]at hat'
      by_cases h:k+(o::x).length≤t.length
      ·exact h
      ·rw[zU h]at hat';cases hat'
     rw[Gz,Cr t z o x n (k+1) (k+(o::x).length) (by lia) hle]
     rw[hat]at hat'
     simp only[AF,hat',j4]
     have e1:k+(o::x).length - (k+1)=(o::x).length - 1:=by lia
     have e2:(t.take (k+1)).drop (k+(o::x).length)=[]:=jn (by rw[ji,zK];lia)
     rw[e1,e2,Js,zl]
    ·rw[zR (fun h=>hat' h.2),Cr t z o x n (k+1) free (by lia) hf]
     have h1:free - (k+1)=0:=by lia
     rw[hat]at hat'
     simp only[Bool.not_eq_true]at hat'
     simp only[h1,AF,hat',jE]
     rw[htk,jR (by rw[ji];lia)]
     simp
   ·rw[zR (fun h=>hfk h.1),Cr t z o x n (k+1) free (by lia) hf,hch]
    have e:free - k=(free - (k+1))+1:=by lia
    have e2:(t.take (k+1)).drop free=[]:=jn (by rw[ji];lia)
    have e3:(t.take k).drop free=[]:=jn (by rw[ji];lia)
    rw[e,e2,e3]
    simp only[AF]
theorem Va(t z:Txt)(o:Nat)(x:Txt):(glued ⟨z.toArray⟩ (partsBetween ⟨t.toArray⟩ (BG (o::x) t 0 (t.length+1) 0) (o::x).length))=⟨(AF (o::x) z 0 t).toArray⟩:=by
 have h:=Q0 t z (o::x).length (BG (o::x) t 0 (t.length+1) 0)
 rw[Cr t z o x (t.length+1) 0 0 (by lia) (by lia)]at h
 simp only[List.take_zero,List.drop_nil,Js,jl,jZ]at h
 rw[←h]
theorem Sm(t z:Txt)(o:Nat)(x:Txt)(h:BG (o::x) t 0 (t.length+1) 0=[]):AF (o::x) z 0 t=t:=by
 have h2:=Cr t z o x (t.length+1) 0 0 (by lia) (by lia)
 rw[h]at h2
 simp only[Gz,List.take_zero,List.drop_nil,Js,jl,jZ,List.take_length]at h2
 exact h2.symm
theorem En(x t:Txt):∀(n k free:Nat),(BG x t k n free).length≤n
 |0,_,_=>by simp[BG]
 |n+1,k,free=>by
  unfold BG
  split
  ·simpa using En x t n (k+1) _
  ·exact z7 (En x t n (k+1) free)
theorem D5(old new:Txt)(ho:0 < old.length)(h:new.length≤old.length):∀(t:Txt) (k:Nat),(AF old new k t).length+(min k t.length)≤t.length
 |[],k=>by induction k using zz <;>simp[AF]
 |c::y,k+1=>by
  have:=D5 old new ho h y k
  simp only[AF,zK]
  lia
 |c::y,0=>by
  simp only[AF]
  induction q:pre? old (c::y)using za with
  |true=>
   have h1:=D5 old new ho h y (old.length - 1)
   have h2:=N7 q
   simp only[j4,zd,zK,Jj]at h2 ⊢
   lia
  |false=>
   have h1:=D5 old new ho h y 0
   simp only[jE,zK,Jj]at h1 ⊢
   lia
theorem Sk(a:Txt):∀n:Nat,∀acc:Array Nat,((List.replicate n a.toArray).foldl (· ++·) acc).toList=acc.toList++rep a n
 |0,acc=>by simp[rep]
 |n+1,acc=>by
  rw[List.replicate_succ,List.foldl_cons,Sk a n]
  simp[rep]
theorem N9(a:Txt):∀n:Nat,(rep a n).length=a.length*n
 |0=>by simp[rep]
 |n+1=>by rw[rep,zd,N9 a n,Nat.mul_succ,jH]
theorem Oa:∀n:Nat,rep [] n=[]
 |0=>rfl
 |n+1=>by rw[rep,Oa n];rfl
theorem UA(a:Txt)(n:Nat):Txt.mul ⟨a.toArray⟩ (Int.ofNat n)=⟨(rep a n).toArray⟩:=by
 unfold Txt.mul
 have e:(⟨a.toArray⟩:Str).length=a.length:=by simp[Str.length]
 by_cases h0:n=0
 ·subst h0;rfl
 ·have h1:¬(Int.ofNat n < 1):=by show¬((n:Int) < 1);lia
  rw[zR h1,e]
  by_cases h2:(Int.ofNat n==1 || a.length==0)=true
  ·rw[z5 h2]
   simp only[JM,beq_iff_eq]at h2
   rcases h2 with h |h
   ·have:n=1:=by
     have:(n:Int)=1:=h
     lia
    subst this;simp[rep]
   ·have:a=[]:=jc h
    subst this;rw[Oa]
  ·rw[zR h2]
   have:=Sk a n #[]
   have e2:(Int.ofNat n).toNat=n:=rfl
   rw[e2]
   simp only[Js]at this
   rw[←this]
theorem OB(n:Nat):∀t:Txt,Bq n t=true→∀ch∈t,ch < n
 |[],_,ch,h=>by cases h
 |a::y,h,ch,hc=>by
  simp only[Bq,UB]at h
  by_cases ha:a < n
  ·rw[ja ha]at h
   rcases zI.mp hc with e |hc
   ·subst e;exact ha
   ·exact OB n y h ch hc
  ·rw[zU ha]at h;cases h
end
section
open PySem PySem.W PySem.Calls PyProof.Rows PySem.StrLaws PySem.Builtin PySem.Builtin.Str
theorem VR.HH{PC:Addr}{Z:Addr→Obj→Prop}{ρ:List Addr}{i:Int}{v:Value}(h:VR PC Z ρ (.int i) v):∃t,v=.int i t:=h.inv
theorem VJ{x:Val}{xs:List Val}{k:Int}(h:sumOf (x::xs)=some k):∃i j,x=.int i∧sumOf xs=some j∧i+j=k:=
 Aa (bI h) fun i e h=>Aa (Np h) fun j e' h=>⟨i,j,e,e',ze h⟩
theorem Uh{c:Cx}{R:Rec}{xs:List Val}:∀{vs:List Value} {k:Int},c.Vs R xs vs→sumOf xs=some k→∃ns,IntsAre vs ns∧ns.sum=k:=by
 induction xs with
 |nil=>
  intro vs k h e
  rw[h.C7]
  exact⟨[],.nil,ze e⟩
 |cons x xs ih=>
  intro vs k h e
  refine Aq (VJ e) fun i j ex q ek=>?_
  refine Aq h.A9 fun v ws ev h1 h2=>?_
  rw[ex]at h1
  refine zg h1.HH fun t et=>?_
  refine Aa (ih h2 q) fun ns a b=>?_
  rw[ev,et]
  exact⟨i::ns,.cons _ _ a,by rw[List.sum_cons,b];exact ek⟩
theorem Ki{a:Int}{n:Nat}(h:n < 1000000):Builtin.divisionGoesByPylong a (Int.ofNat (n+1))=false:=by
 unfold Builtin.divisionGoesByPylong
 have:(Int.ofNat (n+1)).natAbs.log2≤20:=by
  show(n+1).log2≤20
  have:(n+1).log2 < 21:=(Nat.log2_lt (by lia)).mpr (by lia)
  lia
 have h2:¬((if(Int.ofNat (n+1)==0)=true then 0 else(Int.ofNat (n+1)).natAbs.log2 / 30+1) >300):=by
  split <;>lia
 simp only[h2,decide_false,Bool.false_and]
section
variable {c:Cx}{f:Fx}{A:Around}{d:Nat}{R R':Rec}{σ σ':St}{s s':Shared}{E:Value→Shared→Prop}{m:Str→Option Value}{led:List (Addr×Obj)}{rx:Rx}
theorem AV.kept{t:Sem Value}{v:Val}(r:Ap c f R σ s.heap)
  (h:∀(E:Value→Shared→Prop) (Q:Value→Shared→Prop) m led,Rel c f R σ s.heap m led→(∀rv h' tk,Fr f.h₀ f.L h' m→News f.h₀ f.L h' led→c.V R v rv→Q rv {s with heap:=h',toks:=tk})→wpAny (model c.prog c.w) A t Q E s):AV c f A R σ s t v:=by
 intro E Q hq
 refine Av r ?_;clear r;intro m led r
 refine zW (wpAny_toks (h E (fun rv s'=>∃h' tk,s'={s with heap:=h',toks:=tk}∧Ap c f R σ h'∧c.V R v rv) m led r fun rv h' tk F N hv=>⟨h',tk,rfl,⟨m,led,r.heap F N⟩,hv⟩)) (fun rv s' x=>?_) fun _ _ x=>x.1
 obtain⟨⟨h',tk,rfl,r',hv⟩,ht⟩:=x
 exact hq R rv _ (.refl R) (Al ht) r' hv
theorem Y5(r:Ap c f R σ s.heap){a:Int}{n:Nat}{t u:Tok}(h:Nat.blt n 1000000=true):AV c f A R σ s (binaryOp .FloorDiv (.int a t) (.int (.ofNat (n+1)) u)) (.int (Int.fdiv a (.ofNat (n+1)))):=by
 rw[UB,decide_eq_true_eq]at h
 exact AV.plain r fun _ _ hq=>floordiv_int (by intro e;cases e) (hq _ _ (.int _ _)) (.inl (Ki h))
theorem YG{prog:Program}{w:World}{E Q:Value→Shared→Prop}{a:Txt}{n:Nat}{t u:Tok}(h:a.length*n≤AJ)(hn:n≤AJ)(hq:∀t' k,Q (.str ⟨(rep a n).toArray⟩ t') {s with toks:=k}):wpAny (model prog w) A (binaryOp .Mult (.str ⟨a.toArray⟩ t) (.int (.ofNat n) u)) Q E s:=by
 refine SB.mul ?_ fun t' k=>?_
 ·have hl:=Bk
  have e:(⟨a.toArray⟩:Str).length=a.length:=Bw a
  have en:(Int.ofNat n)=(n:Int):=rfl
  refine⟨?_,?_,?_⟩
  ·rw[JC]
   exact⟨zU (by rw[en];lia),zU (by rw[en];lia)⟩
  ·intro h1 _
   rw[e,en]
   rw[en]at h1
   have:(a.length:Int)≤(2 ^ 63 - 1) / (n:Int):=by
    rw[Int.le_ediv_iff_mul_le (by lia)]
    have:((a.length*n:Nat):Int)≤(AJ:Int):=by exact_mod_cast h
    rw[Int.natCast_mul]at this
    lia
   lia
  ·intro _ _
   rw[e]
   show decide (a.length*n >sizeLine)=false
   rw[←A6]
   exact zU (by lia)
 ·rw[UA]
  exact hq _ _
theorem Y8(r:Ap c f R σ s.heap){a:Txt}{n:Nat}{t u:Tok}(h:a.length*n≤AJ)(hn:n≤AJ):AV c f A R σ s (binaryOp .Mult (.str ⟨a.toArray⟩ t) (.int (.ofNat n) u)) (.str (rep a n)):=
 AV.plain r fun E Q hq=>YG h hn fun _ _=>hq _ _ (.str _ _ (by rw[N9];exact h))
theorem eB(hh:A.handled=none)(r:Ap c f R σ s.heap){xs:List Val}{rv:Value}{k:Int}(hx:VH c R s.heap (.seq false xs) rv)(h:sumOf xs=some k):AV c f A R σ s (call (.builtin "sum") [rv]) (.int k):=by
 refine AV.kept r fun E Q m led r0 hq=>?_
 refine AD (hx.seq r0) fun a vs n hq3 hg hl hs=>?_;subst hq3
 refine Aa (Uh hs h) fun ns hi hk=>?_
 refine LSm.sum_ints r0.F r0.N hh (Ai hg) hi fun h' tk t' F N=>?_
 rw[hk]
 exact hq _ h' tk F N (.int _ _)
theorem Pj(r:Ap c f R σ s.heap){a:Txt}{o:Nat}{x z:Txt}{t u v:Tok}(hl:a.length≤AJ)(hz:z.length≤x.length+1)(hne:Bo (o::x) z=false)(hu:u≠0)(hv:v≠0)(huv:u≠v)(hsz:a.length+(a.length+1)*z.length≤AJ):
  AV c f A R σ s (call (.builtin "str.replace") [.str ⟨a.toArray⟩ t,.str ⟨(o::x).toArray⟩ u,.str ⟨z.toArray⟩ v]) (.str (AF (o::x) z 0 a)):=by
 refine AV.plain r fun E Q hq=>?_
 have hrl:=D5 (o::x) z (by simp) (by simpa using hz) a 0
 simp only[Jj,JK]at hrl
 have hocc:=UM a (o::x)
 have eo:(⟨(o::x).toArray⟩:Str).length=x.length+1:=Bw _
 refine call_gives F.slot_str_replace (Jw _ _ _) F.entry_str_replace (F.args_str_replace_3 _ _ _) (gives_str_replace _ _ _ _ _ _ fun _=>⟨by simp[hu,hv],by simp[huv],by rw[BX];exact hne,?_⟩) ?_
 ·rw[hocc,Bw,Bw]
  have h1:=En (o::x) a (a.length+1) 0 0
  have h2:=Nat.mul_le_mul_right z.length h1
  unfold tooLong
  rw[←A6]
  exact zU (by lia)
 ·rw[hocc]
  cases hc:((BG (o::x) a 0 (a.length+1) 0).isEmpty || ((⟨(o::x).toArray⟩:Str).length==0 && (⟨z.toArray⟩:Str).length==0))with
  |true=>
   rw[z5 rfl]
   have hemp:BG (o::x) a 0 (a.length+1) 0=[]:=by
    rw[eo]at hc
    simpa using hc
   have:=Sm a z o x hemp
   show Q _ _
   have hq':=hq (.str ⟨a.toArray⟩ t) s.toks (by rw[this];exact .str _ _ hl)
   exact hq'
  |false=>
   rw[zR (by simp),eo,show x.length+1=(o::x).length from rfl,Va a z o x]
   exact⟨by rw[Bw,←A6];exact zp hrl hl,hq _ _ (.str _ _ (zp hrl hl))⟩
theorem O5:typeLookup (.type "re.Match") "__bool__"=pure none:=rfl
theorem Ru:typeLookup (.type "re.Match") "__len__"=pure none:=rfl
section
variable {b:Bool}{Q:Bool→Shared→Prop}
theorem ZZ{i:Int}{t:Tok}(hq:Q (!(FJ i 0)) s):wpAny (model c.prog c.w) A (truthy (.int i t)) Q E s:=by
 refine PyProof.Rows.truthy_int ?_
 rw[Ek]at hq
 exact hq
theorem fw{a:Addr}{st pat:Value}{p l i:Int}{tp:Addr}(h:s.heap.get? a=some (EW st pat p l i tp))(hq:Q true s):wpAny (model c.prog c.w) A (truthy (.ref a)) Q E s:=by
 have hT:s.TypeIs (.ref a) "re.Match":=⟨_,h,rfl⟩
 unfold truthy
 refine zj (wpAny_callSpecial?_none hT O5 ?_)
 exact zj (wpAny_specialOf hT Ru (zF hq))
theorem Pz(r:Ap c f R σ s.heap){x:Val}{rv:Value}(hx:VH c R s.heap x rv)(h:truth x=some b)(hq:∀s',An s s'→Ap c f R σ s'.heap→Q b s'):wpAny (model c.prog c.w) A (truthy rv) Q E s:=by
 have q0:Q b s:=hq s (.refl s) r
 induction x using Val.casesOn with
 |none=>rw[←ze h]at q0;rw[((hx.v rfl).inv:rv=.none)];exact PyProof.Rows.truthy_none q0
 |bool p=>rw[←ze h]at q0;rw[((hx.v rfl).inv:rv=.bool p)];exact wpAny_truthy_bool q0
 |int i=>rw[←ze h]at q0;exact zg (hx.v rfl).inv fun t e=>by rw[e];exact ZZ q0
 |mt _ _=>rw[←ze h]at q0;exact Av r fun m led r0=>ab (hx.v rfl).inv fun ad tp st pat hh=>fH hh fun pp l i nn er hz ht=>by rw[er];exact fw (r0.get hz) q0
 |_=>exact nz h
end
end
end
end Ag
section
open PySem PySem.W PySem.Calls PyProof.Rows
namespace Ag
section
noncomputable def TF:Option (Addr×Addr)→Option Addr
 |some (_,dx)=>some dx
 |none=>none
noncomputable def XN(R:Rec)(sd:Option (Addr×Addr))(p:Addr×Obj):Bool:= !(R.ρ.contains p.1) && !(decide (TF sd=some p.1)) && !((R.zs.map (·.1)).contains p.1)
noncomputable def Rec.call(R:Rec)(led:List (Addr×Obj))(sd:Option (Addr×Addr)):Rec:=⟨R.ρ,[],R.zs,led.filter (XN R sd),sd⟩
theorem EJ{R:Rec}{sd:Option (Addr×Addr)}{p:Addr×Obj}:XN R sd p=true↔p.1∉R.ρ∧TF sd≠some p.1∧p.1∉R.zs.map (·.1):=by
 unfold XN
 simp only[jN,JH,jk,decide_eq_false_iff_not]
 exact⟨fun h=>⟨h.1.1,h.1.2,h.2⟩,fun h=>⟨⟨h.1,h.2.1⟩,h.2.2⟩⟩
section
variable {c:Cx}{f f':Fx}{R R':Rec}{σ σ':St}{h h₁ h':Heap}{m m':Str→Option Value}{led led' cells:List (Addr×Obj)}{sd:Option (Addr×Addr)}{loc':List (Option LV)}{self':List (Option LV)}{heap':List Cell}
theorem Ar.same{R R':Rec}(hz:∀v rv,LR c R v rv→LR c R' v rv){fs:List (Option LV)}{es:List DictEntry}(x:Ar c R fs es):Ar c R' fs es:=by
 refine HO x fun a b d e=>?_
 refine⟨fun k n hk=>?_,b,d,e⟩
 have:=a k n hk
 revert this
 induction Ax fs k using zh with
 |none=>exact id
 |some v=>rintro⟨rv,a1,a2⟩;exact⟨rv,a1,hz _ _ a2⟩
theorem Rel.enter(r:Rel c f R σ h m led)(F:Fr f'.h₀ f'.L h₁ m')(N:News f'.h₀ f'.L h₁ (cells++led))(hck:cells.map (·.1)=f'.cl.map (·.2))(hcn:(cells.map (·.1)).Nodup)
  (hlt:∀p∈led,∀q∈cells,p.1 < q.1) (B:c.B0.StaysIn f'.h₀)
  (hslots:∀(k:Nat) (n:Str) (v:LV),f'.names[k]? =some n→Ax loc' k=some v→match f'.cs.names.lookup n with
   |some .local=>∃rv,m' n=some rv∧LR c (R.call led sd) v rv
   |some _=>∃a o rv,f'.cl.lookup n=some a∧(a,o)∈cells++led∧o.data=.cell (some rv)∧LR c (R.call led sd) v rv
   |none=>False)
  (hclo:∀n a,f'.cl.lookup n=some a→∃o v,(a,o)∈cells++led∧o.data=.cell v)
  (hself:∀x dx,sd=some (x,dx)→m' c.self=some (.ref x)∧c.Z R x (instObj c.PC dx)∧∃es n,(dx,dictOf es n)∈led∧Ar c (R.call led sd) self' es)
  (hself0:sd=none→self'=[])
  (hh:∀(j:Nat) (ce:Ag.Cell),heap'[j]? =some ce→ce≠ .taken→σ.heap[j]? =some ce∧∀x dx,sd=some (x,dx)→R.ρ[j]? ≠some dx)
  (hlen:heap'.length=σ.heap.length) (hdx:∀x dx,sd=some (x,dx)→R.sd=some (x,dx)∨dx∈R.ρ):
  Rel c f' (R.call led sd) ⟨loc',[],self',heap'⟩ h₁ m' (cells++led):=by
 have dxm:∀x dx,sd=some (x,dx)→F6 f R dx:=fun x dx e=>by
  rcases hdx x dx e with e' |e'
  ·exact .inr (.inr (.inr ⟨x,e'⟩))
  ·exact .inl e'
 have celln:∀a,a∈f'.cl.map (·.2)→∀p∈led,p.1≠a:=fun a ha p hp e=>by
  rw[←hck]at ha
  refine Aa (zA.mp ha) fun q hq e'=>?_
  have:=hlt p hp q hq
  rw[e,←e']at this
  exact j6 _ this
 have exm:∀p∈(R.call led sd).ex,p∈led:=fun p hp=>(z9.mp hp).1
 refine{F:=F,N:=N,nd:=?_,slots:=hslots,clo:=hclo,self:=fun x dx e=>?_,self0:=hself0,ml:=fun a ha=>?_,hlen:=r.hlen.trans hlen.symm,cells:=fun j ce hj ho=>?_,oln:=rfl,owns:=fun k xs hk=>?_,zs:=fun p hp=>zi _ (r.zs p hp),ex:=fun p hp=>zi _ (exm p hp),D1:=?_,D2:=fun x dx e=>?_,D3:=fun a ha p hp=>?_,D4:=fun p hp q hq e=>?_,B:=B}
 ·rw[jh,zZ]
  refine⟨hcn,r.nd,fun a ha b hb e=>?_⟩
  refine Aa (zA.mp ha) fun q hq hq2=>?_;subst hq2
  refine Aa (zA.mp hb) fun p hp hq2=>?_;subst hq2
  exact absurd (hlt p hp q hq) (by rw[e];exact j6 _)
 ·obtain⟨a1,a2,es,n,a3,a4⟩:=hself x dx e
  exact⟨a1,a2,es,n,zi _ a3,a4⟩
 ·rw[jh]
  rcases ha with ha |ha |ha |⟨x,ha⟩
  ·exact zi _ (r.ml a (.inl ha))
  ·cases ha
  ·exact zk _ (hck▸ha)
  ·exact zi _ (r.ml a (dxm x a ha))
 ·refine Aq (r.cells j ce (hh j ce hj ho).1 ho) fun a o a1 a2 a3=>?_
  exact⟨a,o,a1,zi _ a2,Ct.imp (R:=R) (R':=R.call led sd) (fun _ _ y=>y) a3⟩
 ·cases hk
 ·show(R.ρ++[]++List.map (fun p:Str×Addr=>p.2) f'.cl).Nodup
  rw[zE,zZ]
  refine⟨Gq r.D1,hck▸hcn,fun a ha b hb e=>?_⟩
  refine Aa (zA.mp (r.ml a (.inl ha))) fun p hp e'=>?_
  exact celln b hb p hp (e'.trans e)
 ·refine⟨by simp[Rec.call],fun hb=>?_,fun j ce hj ho=>(hh j ce hj ho).2 x dx e⟩
  refine Aa (zA.mp (r.ml dx (dxm x dx e))) fun p hp e'=>?_
  exact celln dx hb p hp e'
 ·rcases zt.mp hp with hp |hp
  ·rcases ha with ha |ha |ha |⟨x,ha⟩
   ·exact r.D3 a (.inl ha) p (zk _ hp)
   ·cases ha
   ·exact celln a ha p (r.zs p hp)
   ·exact r.D3 a (dxm x a ha) p (zk _ hp)
  ·have hx:=EJ.mp (z9.mp hp).2
   rcases ha with ha |ha |ha |⟨x,ha⟩
   ·exact fun e=>hx.1 (e▸ha)
   ·cases ha
   ·exact celln a ha p (exm p hp)
   ·have ha':sd=some (x,a):=ha
    rw[ha']at hx
    exact fun e=>hx.2.1 (by rw[e];rfl)
 ·have hx:=EJ.mp (z9.mp hq).2
  exact hx.2.2 (e▸zA.mpr ⟨p,hp,rfl⟩)
noncomputable def BV(R R':Rec)(led':List (Addr×Obj)):Rec:=⟨R'.ρ,R.ω,R'.zs++led'.filter (fun p=>R'.ω.contains p.1),R.ex,R.sd⟩
set_option tactic.hygienic true in
theorem Fq(r':RelL c f' R' σ' m' led'){l:LV}{x:Val}{rv:Value}(hl:look σ'.own l=some x)(y:LR c R' l rv):c.V (BV R R' led') x rv:=by
 have up:∀{x v},c.V R' x v→c.V (BV R R' led') x v:=fun y=>VR.mono (fun a o z=>z.imp id fun z=>zk _ z) ⟨[],by simp[BV]⟩ y
 have ups:∀{x v},c.Vs R' x v→c.Vs (BV R R' led') x v:=fun y=>AU.mono (fun a o z=>z.imp id fun z=>zk _ z) ⟨[],by simp[BV]⟩ y
 induction y using LR.casesOn with
 |v y=>cases hl;exact up y
 |loc e=>
  rename_i k a
  simp only[look]at hl
  induction ho:Fk σ'.own k using zh with
  |none=>rw[ho]at hl;cases hl
  |some xs=>
   rw[ho]at hl;cases hl
   refine AD (r'.owns k xs ho) fun b vs n a1 a2 a3 a4=>?_
   rw[e]at a1;cases a1
   refine .seq (.of (.inr (zi _ (z9.mpr ⟨a2,?_⟩)))) a3 (ups a4)
   rw[jk];exact ja (Az e)
 |app _ _=>cases hl
 |cb _=>cases hl
theorem my{o:List (List Val)}{r:List (Option LV)}{l:List (Option Val)}(h:fz o (none::r)=some l):∃l',fz o r=some l'∧l=none::l':=by
 have h:(match fz o r with |some l=>some (none::l) |none=>none)=some l:=h
 induction q:fz o r using zh with
 |none=>rw[q]at h;exact nomatch h
 |some l'=>rw[q]at h;exact⟨l',rfl,(ze h).symm⟩
theorem mA{o:List (List Val)}{x:LV}{r:List (Option LV)}{l:List (Option Val)}(h:fz o (some x::r)=some l):∃y l',look o x=some y∧fz o r=some l'∧l=some y::l':=by
 have h:(match look o x,fz o r with |some y,some l=>some (some y::l) |_,_=>none)=some l:=h
 induction q0:look o x using zh with
 |none=>rw[q0]at h;exact nomatch h
 |some y=>induction q:fz o r using zh with
  |none=>rw[q0,q]at h;exact nomatch h
  |some l'=>rw[q0,q]at h;exact⟨y,l',rfl,rfl,(ze h).symm⟩
theorem Ms{o:List (List Val)}{fs:List (Option LV)}:∀{fs':List (Option Val)},fz o fs=some fs'→(cnt (B1 fs')=cnt fs∧fs'.length=fs.length)∧∀k,match Ax fs k with
  |some l=>∃x,look o l=some x∧Ax (B1 fs') k=some (.v x)
  |none=>Ax (B1 fs') k=none:=by
 induction fs with
 |nil=>intro fs' h;rw[←ze h];exact⟨⟨rfl,rfl⟩,fun k=>by induction k using zz <;>rfl⟩
 |cons x r ih=>
  intro fs' h
  induction x using zh with
  |none=>
   refine Aa (my h) fun l q e=>?_
   have p:=ih q
   rw[e]
   refine⟨⟨p.1.1,zy (· +1) p.1.2⟩,fun k=>?_⟩
   induction k using zz with
   |zero=>rfl
   |succ k=>exact p.2 k
  |some x=>
   refine Aq (mA h) fun y l q0 q e=>?_
   have p:=ih q
   rw[e]
   refine⟨⟨zy (· +1) p.1.1,zy (· +1) p.1.2⟩,fun k=>?_⟩
   induction k using zz with
   |zero=>exact⟨y,q0,rfl⟩
   |succ k=>exact p.2 k
theorem CO(r':RelL c f' R' σ' m' led'){fs:List (Option LV)}{fs':List (Option Val)}{es:List DictEntry}(hf:fz σ'.own fs=some fs')(y:Ar c R' fs es):Ar c (BV R R' led') (B1 fs') es:=by
 refine HO y fun a b d e=>?_
 refine Aw (Ms hf) fun l1 l2=>?_
 refine⟨fun k n hk=>?_,b,by rw[l1.1];exact d,by rw[ML,l1.2,e]⟩
 have h1:=a k n hk
 have h2:=l2 k
 revert h1 h2
 induction Ax fs k using zh with
 |none=>intro h1 h2;rw[h2];exact h1
 |some v=>
  intro h1 h2
  refine Aa h1 fun rv h1 h1'=>Aa h2 fun x h2 h2'=>?_
  rw[h2']
  exact⟨rv,h1,.v (Fq r' h2 h1')⟩
theorem RelL.at_{h:Heap}(r:RelL c f R σ m led)(F:Fr f.h₀ f.L h m)(N:News f.h₀ f.L h led):Rel c f R σ h m led:={r with F:=F,N:=N}
theorem RelL.leave(r:RelL c f R σ m led)(le:(R.call led sd).Lm R')(r':RelL c f' R' σ' m' led')
  (hdx:∀x dx,sd=some (x,dx)→R.sd=some (x,dx)∨(R.sd=none∧dx∈R.ρ))
  (hsame:R.sd≠none→sd=R.sd)
  {fsl:List (Option LV)} (HD:∀x dx es n,R.sd=some (x,dx)→(dx,dictOf es n)∈led'→Ar c R' σ'.self es→Ar c (BV R R' led') fsl es) (hfs0:R.sd=none→fsl=[])
  {hp:List Cell} (hhp:hp.length=σ'.heap.length) (hhc:∀(j:Nat) (ce:Ag.Cell),hp[j]? =some ce→ce≠ .taken→σ'.heap[j]? =some ce∨∃a o,R'.ρ[j]? =some a∧(a,o)∈led'∧Ct c (BV R R' led') ce o∧R.sd=none):
  RelL c f (BV R R' led') ⟨σ.loc,σ.own,fsl,hp⟩ m led'∧R.le (BV R R' led'):=by
 have le':R.le (BV R R' led'):=⟨le.ρ,⟨[],by simp[BV]⟩,fun p hp=>zk _ (le.zs p hp),rfl,rfl⟩
 have esd:R'.sd=sd:=le.sd
 have toEx:∀p∈led,p.1∉R.ρ→TF sd≠some p.1→p.1∉R.zs.map (·.1)→p∈R'.ex:=fun p hp h1 h2 h3=>by
  exact le.ex _ (z9.mpr ⟨hp,EJ.mpr ⟨h1,h2,h3⟩⟩)
 have dxne:∀a,a∈R.ω∨a∈f.cl.map (·.2)→a∉R.ρ∧TF sd≠some a∧a∉R.zs.map (·.1):=fun a ha=>by
  have hM:F6 f R a:=by rcases ha with ha |ha;exact .inr (.inl ha);exact .inr (.inr (.inl ha))
  have hρ:a∉R.ρ:=fun hb=>by
   rcases ha with ha |ha
   ·exact EB r.D1 hb ha rfl
   ·exact E3 r.D1 hb ha rfl
  refine⟨hρ,fun e=>?_,fun hb=>?_⟩
  ·induction hs:sd using zh with
   |none=>rw[hs]at e;cases e
   |some p=>
    obtain⟨x,dx⟩:=p
    rw[hs]at e;cases e
    rcases hdx x a hs with e' |⟨_,e'⟩
    ·refine Bx (r.D2 x a e') fun d1 d2 _=>?_
     rcases ha with ha |ha
     ·exact d1 ha
     ·exact d2 ha
    ·exact hρ e'
  ·refine Aa (zA.mp hb) fun p hp e=>?_
   exact r.D3 a hM p (zk _ hp) e
 have keep:∀p∈led,(p.1∈R.ω∨p.1∈f.cl.map (·.2))→p∈R'.ex:=fun p hp ha=>by
  refine Bx (dxne p.1 ha) fun a1 a2 a3=>?_
  exact toEx p hp a1 a2 a3
 have keepEx:∀p∈R.ex,p∈R'.ex:=fun p hp=>by
  refine toEx p (r.ex p hp) (fun hb=>r.D3 p.1 (.inl hb) p (zi _ hp) rfl) (fun e=>?_) (fun hb=>?_)
  ·induction hs:sd using zh with
   |none=>rw[hs]at e;cases e
   |some q=>
    obtain⟨x,dx⟩:=q
    rw[hs]at e;cases e
    refine r.D3 p.1 ?_ p (zi _ hp) rfl
    rcases hdx x p.1 hs with e' |⟨_,e'⟩
    ·exact .inr (.inr (.inr ⟨x,e'⟩))
    ·exact .inl e'
  ·refine Aa (zA.mp hb) fun q hq e=>?_
   exact r.D4 q hq p hp e
 have inEx:∀a,a∈R.ω∨a∈f.cl.map (·.2)→∃q∈R'.ex,q.1=a:=fun a ha=>by
  have hM:F6 f R a:=by rcases ha with ha |ha;exact .inr (.inl ha);exact .inr (.inr (.inl ha))
  refine Aa (zA.mp (r.ml a hM)) fun p hp e=>?_
  exact⟨p,keep p hp (by rw[e];exact ha),e⟩
 have upz:∀{a o},c.Z R' a o→c.Z (BV R R' led') a o:=fun z=>z.imp id fun z=>zk _ z
 refine⟨?_,le'⟩
 refine{nd:=r'.nd,slots:=fun k n v hk hv=>?_,clo:=fun n a ha=>?_,self:=fun x dx e=>?_,self0:=hfs0,ml:=fun a ha=>?_,hlen:=r'.hlen.trans hhp.symm,cells:=fun j ce hj ho=>?_,oln:=r.oln,owns:=fun k xs hk=>?_,zs:=fun p hp=>?_,ex:=fun p hp=>r'.ex p (keepEx p hp),D1:=?_,D2:=fun x dx e=>?_,D3:=fun a ha p hp=>?_,D4:=fun p hp q hq=>?_,B:=r.B}
 ·exact BF (fun a o a1 a2=>r'.ex _ (keep _ a2 (.inr (lookup_mem a1)))) (fun _ b=>b.up le') (r.slots k n v hk hv)
 ·refine AH (r.clo n a ha) fun o v a1 a2=>?_
  exact⟨o,v,r'.ex _ (keep _ a1 (.inr (lookup_mem ha))),a2⟩
 ·have e':R.sd=some (x,dx):=e
  have hs:sd=some (x,dx):=(hsame (by rw[e'];simp)).trans e'
  refine Bx (r.self x dx e') fun a1 a2 _=>?_
  obtain⟨_,_,es,n,b3,b4⟩:=r'.self x dx (esd.trans hs)
  exact⟨a1,Cx.Z.mono le' _ _ a2,es,n,b3,HD x dx es n e' b3 b4⟩
 ·rcases ha with ha |ha |ha |⟨x,ha⟩
  ·exact r'.ml a (.inl ha)
  ·refine Aa (inEx a (.inl ha)) fun q hq e=>?_
   exact zA.mpr ⟨q,r'.ex q hq,e⟩
  ·refine Aa (inEx a (.inr ha)) fun q hq e=>?_
   exact zA.mpr ⟨q,r'.ex q hq,e⟩
  ·have e':R.sd=some (x,a):=ha
   exact r'.ml a (.inr (.inr (.inr ⟨x,esd.trans ((hsame (by rw[e'];simp)).trans e')⟩)))
 ·rcases hhc j ce hj ho with h1 |⟨a,o,a1,a2,a3,_⟩
  ·refine Aq (r'.cells j ce h1 ho) fun a o a1 a2 a3=>?_
   exact⟨a,o,a1,a2,a3.imp fun _ _ y=>VR.mono (fun _ _ z=>upz z) ⟨[],by simp[BV]⟩ y⟩
  ·exact⟨a,o,a1,a2,a3⟩
 ·refine AD (r.owns k xs hk) fun a vs n a1 a2 a3 a4=>?_
  exact⟨a,vs,n,a1,r'.ex _ (keep _ a2 (.inl (Az a1))),a3,Vs.up le' a4⟩
 ·rcases zt.mp hp with hp |hp
  ·exact r'.zs p hp
  ·exact(z9.mp hp).1
 ·show(R'.ρ++R.ω++List.map (fun p:Str×Addr=>p.2) f.cl).Nodup
  rw[zl,zZ]
  have D:=r.D1
  rw[zl,zZ]at D
  refine⟨Gq r'.D1,D.2.1,fun a ha b hb e=>?_⟩
  refine Aa (inEx b (zt.mp hb)) fun q hq e'=>?_
  exact r'.D3 a (.inl ha) q (zi _ hq) (e'.trans e.symm)
 ·have e':R.sd=some (x,dx):=e
  have hs:sd=some (x,dx):=(hsame (by rw[e'];simp)).trans e'
  refine Bx (r.D2 x dx e') fun d1 d2 _=>?_
  refine⟨d1,d2,fun j ce hj ho=>?_⟩
  rcases hhc j ce hj ho with h1 |⟨_,_,_,_,_,h0⟩
  ·exact(r'.D2 x dx (esd.trans hs)).2.2 j ce h1 ho
  ·rw[e']at h0;cases h0
 ·rcases zt.mp hp with hp |hp
  ·rcases zt.mp hp with hp |hp
   ·rcases ha with ha |ha |ha |⟨x,ha⟩
    ·exact r'.D3 a (.inl ha) p (zk _ hp)
    ·refine Aa (inEx a (.inl ha)) fun q hq e=>?_
     exact e▸r'.D4 p hp q hq
    ·refine Aa (inEx a (.inr ha)) fun q hq e=>?_
     exact e▸r'.D4 p hp q hq
    ·have e':R.sd=some (x,a):=ha
     exact r'.D3 a (.inr (.inr (.inr ⟨x,esd.trans ((hsame (by rw[e'];simp)).trans e')⟩))) p (zk _ hp)
   ·have hω:p.1∈R'.ω:=by
     have:=(z9.mp hp).2
     rw[jk]at this
     exact zX this
    rcases ha with ha |ha |ha |⟨x,ha⟩
    ·exact fun e=>EB r'.D1 ha hω e.symm
    ·refine Aa (inEx a (.inl ha)) fun q hq e=>?_
     exact fun e'=>r'.D3 p.1 (.inr (.inl hω)) q (zi _ hq) (e.trans e'.symm)
    ·refine Aa (inEx a (.inr ha)) fun q hq e=>?_
     exact fun e'=>r'.D3 p.1 (.inr (.inl hω)) q (zi _ hq) (e.trans e'.symm)
    ·have e':R.sd=some (x,a):=ha
     have hs:=esd.trans ((hsame (by rw[e'];simp)).trans e')
     exact fun e=>(r'.D2 x a hs).1 (e▸hω)
  ·intro e
   rcases ha with ha |ha |ha |⟨x,ha⟩
   ·exact r'.D3 a (.inl ha) p (zi _ (keepEx p hp)) e
   ·exact r.D3 a (.inr (.inl ha)) p (zi _ hp) e
   ·exact r.D3 a (.inr (.inr (.inl ha))) p (zi _ hp) e
   ·exact r.D3 a (.inr (.inr (.inr ⟨x,ha⟩))) p (zi _ hp) e
 ·rcases zt.mp hp with hp |hp
  ·exact r'.D4 p hp q (keepEx q hq)
  ·have hω:p.1∈R'.ω:=by
    have:=(z9.mp hp).2
    rw[jk]at this
    exact zX this
   exact fun e=>r'.D3 p.1 (.inr (.inl hω)) q (zi _ (keepEx q hq)) e.symm
end
end
section
structure Dd where
 name:Str
 qual:Str
 params:Arguments
 body:List Stmt
 scope:Scope
 Af:Bool
 pargs:List Str
 locs:List Str
 cells:List Str
noncomputable def Dd.AC(D:Dd)(self:Str):List Str:=match D.Af with |true=>self::D.pargs |false=>D.pargs
noncomputable def Dd.names(D:Dd):List Str:=D.pargs++D.locs
structure FnAt(c:Cx)(k:Nat)(D:Dd)(a:Addr)(cdv:Value):Prop where
 fad:c.fad[k]? =some a
 at_:∃dV kV doc pm an ct oc od osl,c.K.lookup a=some ⟨oc,od,.func (fnX D.name D.qual D.params D.body D.scope [] dV kV doc pm an cdv ct),osl⟩∧
  ∀args:List Value,args.length=(D.AC c.self).length→bindArgs (fnX D.name D.qual D.params D.body D.scope [] dV kV doc pm an cdv ct) ⟨args,[]⟩=pure ((D.AC c.self).zip args)
 code:codeIn c.K cdv D.qual=true
 keep:keepIn c.K (.ref a)=true
 isFn:isFn c.K (.ref a)=true
 kinds:∀n∈D.names,D.scope.names.lookup n=some .local∨(D.scope.names.lookup n=some .cell∧n∈D.cells)
 skind:D.Af=true→D.scope.names.lookup c.self=some .local
 cnm:(cellsFrom 0 D.scope.names []).map (·.1)=D.cells
 cnd:D.cells.Nodup
 co:D.scope.isCoroutine=false
 gen:D.scope.isGenerator=false
 kind:D.scope.kind=.function
 nd:D.names.Nodup
 self:c.self∉D.names
 dbg:∀n∈D.names,(n==("__debug__":Str))=false∧(n==("__classdict__":Str))=false
section
variable {α β:Type}[BEq α]{k:α}{v:β}{l₁ l₂:List (α×β)}
theorem lookup_append_none:l₁.lookup k=none→(l₁++l₂).lookup k=l₂.lookup k:=by
 induction l₁ with
 |nil=>exact fun _=>rfl
 |cons p r ih=>
  intro h
  rw[zV]at h
  rw[JT,zV]
  induction q:k==p.1 using za with
  |true=>rw[q]at h;exact nomatch h
  |false=>rw[q]at h;exact ih h
theorem Eo:l₁.lookup k=some v→(l₁++l₂).lookup k=some v:=by
 induction l₁ with
 |nil=>exact fun h=>nomatch h
 |cons p r ih=>
  intro h
  rw[zV]at h
  rw[JT,zV]
  induction q:k==p.1 using za with
  |true=>rw[q]at h;exact h
  |false=>rw[q]at h;exact ih h
end
theorem GP{β:Type}{k:Str}{l:List (Str×β)}:(∀p∈l,p.1≠k)→l.lookup k=none:=by
 induction l with
 |nil=>exact fun _=>rfl
 |cons p r ih=>
  intro h
  rw[zV,show(k==p.1)=false from jd.mpr fun e=>h p (.head _) e.symm]
  exact ih fun q hq=>h q (.tail _ hq)
theorem Dh{ns:List Str}:∀{vs:List Value} {k:Nat} {n:Str} {v:Value},ns.Nodup→ns[k]? =some n→vs[k]? =some v→((ns.zip vs).reverse).lookup n=some v:=by
 induction ns with
 |nil=>exact fun _ h _=>nomatch (js.symm.trans h:none=some _)
 |cons a ns ih=>
  intro vs k n v hn h1 h2
  have hn:=jg.mp hn
  induction vs using zo with
  |nil=>exact nomatch (js.symm.trans h2:none=some _)
  |cons b vs=>
   rw[List.zip_cons_cons,List.reverse_cons]
   induction k using zz with
   |zero=>
    have e:a=n:=ze h1
    rw[lookup_append_none (GP fun p hp e'=>hn.1 ((e.trans e'.symm)▸(Jb (b:=p.2) (List.mem_reverse.mp hp)).1)),zV,e,ju]
    exact h2
   |succ k=>exact Eo (ih hn.2 h1 h2)
theorem Qt{names:List (Str×NameKind)}:∀{n lo:Nat} {acc:List (Str×Addr)},lo < n→(∀p∈acc,lo < p.2)→∀p∈cellsFrom n names acc,lo < p.2:=by
 induction names with
 |nil=>exact fun _ h=>h
 |cons x r ih=>
  intro n lo acc hn h
  unfold cellsFrom
  split
  ·exact ih (jF hn) fun p hp=>(zI.mp hp).elim (fun e=>e▸hn) (h p)
  ·exact ih hn h
theorem aQ{names:List (Str×NameKind)}:∀{n:Nat} {acc:List (Str×Addr)},(acc.map (·.2)).Nodup→(∀p∈acc,p.2 < n)→((cellsFrom n names acc).map (·.2)).Nodup:=by
 induction names with
 |nil=>exact fun h _=>h
 |cons x r ih=>
  intro n acc hn h
  unfold cellsFrom
  split
  ·refine ih (jg.mpr ⟨fun hm=>?_,hn⟩) fun p hp=>(zI.mp hp).elim (fun e=>e▸zS n) fun hp=>jF (h p hp)
   refine Aa (zA.mp hm) fun p hp e=>?_
   have e:p.2=n:=e
   exact absurd (h p hp) (by rw[e];exact j6 n)
  ·exact ih hn h
theorem Ty{cm:Str→Option Value}{cs:List (Str×Addr)}:∀{cells:List (Addr×Obj)},CellsAre cm cs cells→cells.map (·.1)=cs.map (·.2):=by
 induction cs with
 |nil=>intro cells h;cases h;rfl
 |cons p r ih=>intro cells h;cases h with |cons h t=>exact zy _ (ih t)
theorem Qq{cm:Str→Option Value}{n:Str}{a:Addr}{cs:List (Str×Addr)}:∀{cells:List (Addr×Obj)},CellsAre cm cs cells→cs.lookup n=some a→∃o,(a,o)∈cells∧o.data=.cell (cm n):=by
 induction cs with
 |nil=>exact fun _ h=>nomatch h
 |cons p r ih=>
  intro cells h hl
  cases h with
  |cons hd t=>
   rw[zV]at hl
   induction q:n==_ using za with
   |true=>
    rw[q]at hl
    cases hl
    exact⟨_,.head _,by rw[eq_of_beq q];exact hd⟩
   |false=>rw[q]at hl;exact Aa (ih t hl) fun o h1 h2=>⟨o,.tail _ h1,h2⟩
section
variable {kf:Str→Option NameKind}{n:Str}{v:Value}
theorem Tv{bs:List (Str×Value)}:∀{m:Str→Option Value},(∀p∈bs,p.1≠n)→bindL kf bs m n=m n:=by
 induction bs with
 |nil=>exact fun _=>rfl
 |cons p r ih=>
  intro m h
  refine(ih fun q hq=>h q (.tail _ hq)).trans ?_
  split
  ·exact zR fun e=>h p (.head _) e.symm
  ·rfl
theorem Tu{bs:List (Str×Value)}:∀{m:Str→Option Value},(∀p∈bs,p.1≠n)→bindC kf bs m n=m n:=by
 induction bs with
 |nil=>exact fun _=>rfl
 |cons p r ih=>
  intro m h
  refine(ih fun q hq=>h q (.tail _ hq)).trans ?_
  split
  ·rfl
  ·exact zR fun e=>h p (.head _) e.symm
theorem Xf{ns:List Str}:∀{vs:List Value} {k:Nat} {m:Str→Option Value},ns.Nodup→ns[k]? =some n→vs[k]? =some v→kf n=some .local→bindL kf (ns.zip vs) m n=some v:=by
 induction ns with
 |nil=>exact fun _ h=>nomatch (js.symm.trans h:none=some _)
 |cons a ns ih=>
  intro vs k m hn h1 h2 hk
  have hn:=jg.mp hn
  induction vs using zo with
  |nil=>exact nomatch (js.symm.trans h2:none=some _)
  |cons b vs=>
   induction k using zz with
   |zero=>
    have e:a=n:=ze h1
    subst e
    show bindL kf (ns.zip vs) (if kf a=some .local then fun y=>if y=a then some b else m y else m) a=some v
    rw[Tv fun p hp e'=>hn.1 (by rw[←e'];exact(Jb (a:=p.1) (b:=p.2) hp).1),z5 hk]
    show(if a=a then some b else m a)=some v
    rw[z5 rfl];exact h2
   |succ k=>exact ih hn.2 h1 h2 hk
theorem Xb{ns:List Str}:∀{vs:List Value} {k:Nat} {m:Str→Option Value},ns.Nodup→ns[k]? =some n→vs[k]? =some v→kf n=some .cell→bindC kf (ns.zip vs) m n=some v:=by
 induction ns with
 |nil=>exact fun _ h=>nomatch (js.symm.trans h:none=some _)
 |cons a ns ih=>
  intro vs k m hn h1 h2 hk
  have hn:=jg.mp hn
  induction vs using zo with
  |nil=>exact nomatch (js.symm.trans h2:none=some _)
  |cons b vs=>
   induction k using zz with
   |zero=>
    have e:a=n:=ze h1
    subst e
    show bindC kf (ns.zip vs) (if kf a=some .local then m else fun y=>if y=a then some b else m y) a=some v
    rw[Tu fun p hp e'=>hn.1 (by rw[←e'];exact(Jb (a:=p.1) (b:=p.2) hp).1),zR (by rw[hk];exact nofun)]
    show(if a=a then some b else m a)=some v
    rw[z5 rfl];exact h2
   |succ k=>exact ih hn.2 h1 h2 hk
end
theorem Fj{α:Type}{n:Nat}:∀{k:Nat},Ax (Bz n:List (Option α)) k=none:=by
 induction n with
 |zero=>intro k;induction k using zz <;>rfl
 |succ n ih=>intro k;induction k using zz with
  |zero=>rfl
  |succ k=>exact ih
theorem Fw{vs:List Val}{n:Nat}:∀{k:Nat} {v:LV},Ax (start vs n) k=some v→∃x,vs[k]? =some x∧v=.v x:=by
 induction vs with
 |nil=>intro k v h;exact nomatch (Fj.symm.trans (show Ax (Bz n) k=some v from by induction n using zz <;>exact h):none=some v)
 |cons x r ih=>
  intro k v h
  induction k using zz with
  |zero=>exact⟨x,rfl,(ze h).symm⟩
  |succ k=>exact ih h
noncomputable def AG:Option (Addr×Addr)→List Value
 |some (x,_)=>[.ref x]
 |none=>[]
noncomputable def IM(c:Cx)(C:Cfg)(d:Nat)(body:List Stmt)(cn:Str)(cs:Scope)(fa:Addr)(cd:Value)(names:List Str)(Af:Bool)(ss:Ss):Prop:=
 ∀(f:Fx) (A:Around) (R:Rec) (σ:St) (s:Shared) (m:Str→Option Value) (led:List (Addr×Obj)) (X:AN→St→Prop) (K:Out→St→Prop),f.cn=cn→f.cs=cs→f.fa=fa→f.cd=cd→f.names=names→R.sd.isSome=Af→
  L8 c f A d→E4 c f→(Af=true→0 < s.toks)→Rel c f R σ s.heap m led→Au C X ss K σ→
  ∀(E:Value→Shared→Prop) (Q:Flow→Shared→Prop),HT c f A R s X E→PassesOwn (model c.prog c.w) A f.env E→(∀o σ' R' fl s',R.le R'→An s s'→K o σ'→Ap c f R' σ' s'.heap→(match o,fl with | .next,.next=>True | .ret lv,.ret rv=>LR c R' lv rv | .brk,_=>True | .cont,_=>True |_,_=>False)→Q fl s')→
   wpAny (model c.prog c.w) A (execs body f.env) Q E s
structure Ov(A₀ A:Around):Prop where
 h:A.handled=A₀.handled
 f:A.frames=A₀.frames
 g:A.guards=A₀.guards
 d:A.depth≤A₀.depth+4
 u:A.units≤A₀.units+4
theorem Ov.refl(A:Around):Ov A A:=⟨rfl,rfl,rfl,zB _ _,zB _ _⟩
structure Os(c:Cx)(d:Nat)(f:Fx)(A₀ A:Around)(R:Rec)(σ:St)(s:Shared)(m:Str→Option Value)(led:List (Addr×Obj))(sd:Option (Addr×Addr))(vs:List Val)(rvs:List Value)(fs:List (Option Val))(hp:List Cell)(mt:Bool):Prop where
 G:L8 c f A₀ d
 nr:Ov A₀ A
 r:Rel c f R σ s.heap m led
 hvs:c.Vs R vs rvs
 hmeth:sd.isSome=mt
 hself:∀x dx,sd=some (x,dx)→c.Z R x (instObj c.PC dx)∧∃es n,(dx,dictOf es n)∈led∧Ar c (R.call led sd) (B1 fs) es
 hself0:sd=none→fs=[]
 hh:∀(j:Nat) (ce:Ag.Cell),hp[j]? =some ce→ce≠ .taken→σ.heap[j]? =some ce∧∀x dx,sd=some (x,dx)→R.ρ[j]? ≠some dx
 hlen:hp.length=σ.heap.length
 hdx:∀x dx,sd=some (x,dx)→R.sd=some (x,dx)∨dx∈R.ρ
noncomputable def PU(c:Cx)(f:Fx)(R:Rec)(s:Shared)(m:Str→Option Value)(led:List (Addr×Obj))(sd:Option (Addr×Addr))(K:Val→List (Option Val)→List Cell→Prop)(Rp:PySem.Result→Shared→Prop):Prop:=
 ∀(r:Val) (fs':List (Option Val)) (h':List Cell) (rv:Value) (s':Shared) (f':Fx) (R':Rec) (σ':St) (m':Str→Option Value) (led':List (Addr×Obj)) (lv:LV),K r fs' h'→An s s'→(R.call led sd).le R'→Rel c f' R' σ' s'.heap m' led'→look σ'.own lv=some r→LR c R' lv rv→
  fz σ'.own σ'.self=some fs'→σ'.heap=h'→Fr f.h₀ f.L s'.heap m→News f.h₀ f.L s'.heap led'→Rp (.ok (.ret rv)) s'
noncomputable def Me(c:Cx)(f:Fx)(A:Around)(R:Rec)(s:Shared)(m:Str→Option Value)(led:List (Addr×Obj))(sd:Option (Addr×Addr))(X:AN→List (Option Val)→List Cell→Prop)(Rp:PySem.Result→Shared→Prop):Prop:=
 ∀(a:Addr) (T:String) (B:Heap) (a0:Value) (outer:List Env) (fs':List (Option Val)) (h':List Cell) (s':Shared) (f':Fx) (R':Rec) (σ':St) (m':Str→Option Value) (led':List (Addr×Obj)),X (.user a) fs' h'→An s s'→(R.call led sd).Lm R'→RelL c f' R' σ' m' led'→
  fz σ'.own σ'.self=some fs'→σ'.heap=h'→Hq T→A.frames=some (f.env::outer)→Heap.FlyingW B (f.env::outer) a (.type T) a0 s'.heap→(∀b o,f.h₀.get? b=some o→b∉outer.filterMap (·.frame)→B.get? b=some o)→(∀p∈led',p.1≠a→B.get? p.1=some p.2)→
  (∀p∈led',f.h₀.get? p.1=none)→f.h₀.UpToSlots s'.heap→s'.heap.Ns f.L m→Rp (.error (.ref a)) s'
noncomputable def AM(c:Cx)(C:Cfg)(d:Nat)(Af:Nat→Bool):Prop:=
 ∀(k:Nat) (fs:List (Option Val)) (vs:List Val) (hp:List Cell) (K:Val→List (Option Val)→List Cell→Prop) (X:AN→List (Option Val)→List Cell→Prop) (a:Addr),c.fad[k]? =some a→C.call k fs vs hp K X→
 ∀(f:Fx) (A₀ A:Around) (R:Rec) (σ:St) (s:Shared) (m:Str→Option Value) (led:List (Addr×Obj)) (sd:Option (Addr×Addr)) (rvs:List Value),Os c d f A₀ A R σ s m led sd vs rvs fs hp (Af k)→
  ∀Rp,PU c f R s m led sd K Rp→Me c f A R s m led sd X Rp→codeAny (model c.prog c.w) A (.call (.ref a) ⟨AG sd++rvs,[]⟩) Rp s
section
variable {c:Cx}
theorem L8.call{f:Fx}{A₀ A:Around}{d:Nat}(G:L8 c f A₀ (d+1))(nr:Ov A₀ A){f':Fx}{outer:List Env}{base:Heap}(hfr:A.frames=some (f.env::outer))(B:Below A base (f.env::outer) f'.h₀)(hk:f'.cs.kind=.function)
  (st:f.h₀.StaysIn f'.h₀):L8 c f' (A.deeper f'.env) d:=by
 refine zg G.gd fun g hg=>?_
 refine{kind:=hk,hh:=nr.h.trans G.hh,depth:=?_,units:=?_,fr:=⟨f.env::outer,A,base,Around.frames_deeper hfr,B⟩,X:=G.X.keeps st,T:=?_,gd:=⟨g,nr.g.trans hg⟩}
 ·have:=G.depth
  have:=nr.d
  show A.depth+1+8*d+8 < recursionLimit
  lia
 ·have:=G.units
  have:=nr.u
  show A.units+3+24*d+80 < cLine
  lia
 ·refine DT G.T fun p l mean mg mb T=>?_
  exact⟨p,l,mean,mg,mb,T.keeps st⟩
theorem Bm{b:Bool}{p:Prop}(h:Be b p False):b=true∧p:=by
 induction b using za with
 |true=>exact⟨rfl,h⟩
 |false=>exact h.elim
section
variable {D:Dd}{self:Str}{sd:Option (Addr×Addr)}{rvs:List Value}
theorem Kn{m:Bool}(h:sd.isSome=m)(hm:m=false):sd=none:=by
 rw[hm]at h
 induction sd using zh with
 |none=>rfl
 |some p=>exact Bool.noConfusion h
theorem Od{m:Bool}(h:sd.isSome=m)(hm:m=true):∃x d,sd=some (x,d):=by
 rw[hm]at h
 induction sd using zh with
 |none=>exact Bool.noConfusion h
 |some p=>exact⟨p.1,p.2,rfl⟩
theorem Ep(hm:D.Af=true):D.AC self=self::D.pargs:=by unfold Dd.AC;rw[hm]
theorem Ir(hm:D.Af=false):D.AC self=D.pargs:=by unfold Dd.AC;rw[hm]
theorem Kd(h:sd.isSome=D.Af)(hl:rvs.length=D.pargs.length):(AG sd++rvs).length=(D.AC self).length:=by
 induction hm:D.Af using za with
 |true=>
  refine Av (Od h hm) fun x d e=>?_
  rw[Ep hm,e]
  exact zy (· +1) hl
 |false=>rw[Ir hm,Kn h hm];exact hl
theorem Iq{c:Cx}{k:Nat}{a:Addr}{cdv:Value}(At:FnAt c k D a cdv):(D.AC c.self).Nodup:=by
 have h1:=(zZ.mp At.nd).1
 induction hm:D.Af using za with
 |true=>rw[Ep hm];exact jg.mpr ⟨fun h=>At.self (zk _ h),h1⟩
 |false=>rw[Ir hm];exact h1
theorem N5{c:Cx}{k:Nat}{a:Addr}{cdv:Value}(At:FnAt c k D a cdv):∀n∈D.AC c.self,D.scope.names.lookup n=some .local∨(D.scope.names.lookup n=some .cell∧n∈D.cells):=by
 intro n hn
 induction hm:D.Af using za with
 |true=>
  rw[Ep hm]at hn
  rcases zI.mp hn with e |hn
  ·rw[e];exact .inl (At.skind hm)
  ·exact At.kinds n (zk _ hn)
 |false=>rw[Ir hm]at hn;exact At.kinds n (zk _ hn)
theorem DP{c:Cx}{k:Nat}{a:Addr}{cdv:Value}(At:FnAt c k D a cdv)(hc:D.cells=[]):∀n∈D.AC c.self,D.scope.names.lookup n=some .local:=
 fun n hn=>(N5 At n hn).elim id fun h=>absurd h.2 (by rw[hc];exact List.not_mem_nil)
theorem TB{names:List (Str×NameKind)}:∀{n:Nat} {acc:List (Str×Addr)},cellsFrom n names acc=[]→acc=[]∧∀x∈names,x.2≠ .cell:=by
 induction names with
 |nil=>exact fun h=>⟨h,fun _ h=>nomatch h⟩
 |cons x r ih=>
  intro n acc h
  unfold cellsFrom at h
  induction q:x.2==NameKind.cell using za with
  |true=>rw[q,z5 rfl]at h;exact nomatch (ih h).1
  |false=>
   rw[q,zR jp]at h
   refine⟨(ih h).1,fun y hy=>(zI.mp hy).elim (fun e=>e▸jd.mp q) ((ih h).2 y)⟩
theorem E9{c:Cx}{k:Nat}{a:Addr}{cdv:Value}(At:FnAt c k D a cdv)(hc:D.cells=[]):∀x∈D.scope.names,x.2≠ .cell:=
 (TB (List.map_eq_nil_iff.mp (At.cnm.trans hc))).2
theorem K7{c:Cx}{k:Nat}{a:Addr}{cdv:Value}(At:FnAt c k D a cdv)(n:Nat):(cellsFrom n D.scope.names []).map (·.1)=D.cells:=
 (cellsFrom_names D.scope.names n 0 [] [] rfl).trans At.cnm
theorem Ih{β:Type}{n:Str}{l:List (Str×β)}:n∈l.map (·.1)→∃a,l.lookup n=some a:=by
 induction l with
 |nil=>exact fun h=>nomatch h
 |cons p r ih=>
  intro h
  rw[zV]
  induction q:n==p.1 using za with
  |true=>exact⟨_,rfl⟩
  |false=>exact ih ((zI.mp h).resolve_left (jd.mp q))
theorem NF{c:Cx}{k:Nat}{a:Addr}{cdv:Value}(At:FnAt c k D a cdv){m:Nat}{n:Str}(hn:n∈D.cells):∃a,(cellsFrom m D.scope.names []).lookup n=some a:=Ih (K7 At m▸hn)
theorem X0{n n':Str}{b:Addr}{l:List (Str×Addr)}(nd:(l.map (·.2)).Nodup)(h1:l.lookup n=some b)(h2:l.lookup n'=some b):n'=n:=by
 induction l with
 |nil=>exact nomatch h1
 |cons p r ih=>
  have nd:=jg.mp nd
  have mm:∀{x:Str},r.lookup x=some b→b∈r.map (·.2):=fun h=>lookup_mem h
  rw[zV]at h1 h2
  induction q1:n==p.1 using za with
  |true=>induction q2:n'==p.1 using za with
   |true=>exact(eq_of_beq q2).trans (eq_of_beq q1).symm
   |false=>rw[q1]at h1;rw[q2]at h2;cases h1;exact absurd (mm h2) nd.1
  |false=>induction q2:n'==p.1 using za with
   |true=>rw[q1]at h1;rw[q2]at h2;cases h2;exact absurd (mm h1) nd.1
   |false=>rw[q1]at h1;rw[q2]at h2;exact ih nd.2 h1 h2
theorem Ke{k:Nat}{n:Str}{v:Value}(h:sd.isSome=D.Af)(nd:(D.AC self).Nodup)(h1:D.pargs[k]? =some n)(h2:rvs[k]? =some v):List.lookup n ((D.AC self).zip (AG sd++rvs)).reverse=some v:=by
 induction hm:D.Af using za with
 |true=>
  refine Av (Od h hm) fun x d e=>?_
  rw[Ep hm]at nd ⊢
  rw[e]
  exact Dh (k:=k+1) nd h1 h2
 |false=>
  rw[Ir hm]at nd ⊢
  rw[Kn h hm]
  exact Dh (k:=k) nd h1 h2
theorem N6{x d:Addr}(h:sd.isSome=D.Af)(nd:(D.AC self).Nodup)(e:sd=some (x,d)):List.lookup self ((D.AC self).zip (AG sd++rvs)).reverse=some (.ref x):=by
 rw[e]at h ⊢
 rw[Ep h.symm]at nd ⊢
 exact Dh (k:=0) nd rfl rfl
theorem R8{n:Nat}(h:sd.isSome=D.Af)(hl:(AG sd++rvs).length=(D.AC self).length)(hm:D.Af=true):0 < n+((D.AC self).zip (AG sd++rvs)).length:=by
 rw[List.length_zip,hl,Nat.min_self,Ep hm]
 exact jO _
end
section
variable {d:Nat}{f:Fx}{A₀ A:Around}{R:Rec}{σ:St}{s:Shared}{m:Str→Option Value}{led:List (Addr×Obj)}{sd:Option (Addr×Addr)}{vs:List Val}{rvs:List Value}{fs:List (Option Val)}{hp:List Cell}{D:Dd}{k n:Nat}{a L':Addr}{cdv:Value}{outer:List Env}{base g h₁:Heap}
noncomputable abbrev B9(D:Dd)(cl:List (Str×Addr))(L' a:Addr)(cdv:Value)(g:Heap):Fx:=⟨D.qual,D.scope,L',a,cdv,cl,g,D.names⟩
theorem Fh(At:FnAt c k D a cdv){cl:List (Str×Addr)}(hcl:cl.map (·.1)=D.cells)(hnd:(cl.map (·.2)).Nodup):E4 c (B9 D cl L' a cdv g):=
 {nd:=At.nd,self:=At.self,kinds:=fun n hn=>(At.kinds n hn).imp id fun h=>.inl ⟨h.1,Ih (hcl▸h.2)⟩,inj:=fun n n' b h1 h2=>X0 hnd h1 h2,dbg:=At.dbg}
theorem Os.frame(q:Os c (d+1) f A₀ A R σ s m led sd vs rvs fs hp D.Af)(At:FnAt c k D a cdv)(hc:D.cells=[])(har:vs.length=D.pargs.length)(hfr:A.frames=some (f.env::outer))(F:Fr g L' h₁ (fun y=>((D.AC c.self).zip (AG sd++rvs)).reverse.lookup y))
  (N:News g L' h₁ led) (B':Below A base (f.env::outer) g) (st:f.h₀.StaysIn g):
  Rel c (B9 D [] L' a cdv g) (R.call led sd) ⟨start vs n,[],B1 fs,hp⟩ h₁ (fun y=>((D.AC c.self).zip (AG sd++rvs)).reverse.lookup y) led∧L8 c (B9 D [] L' a cdv g) (A.deeper (B9 D [] L' a cdv g).env) d∧E4 c (B9 D [] L' a cdv g):=by
 have hrl:=q.hvs.length
 refine⟨?_,q.G.call q.nr hfr B' At.kind st,Fh At hc.symm List.nodup_nil⟩
 refine q.r.enter (f':=B9 D [] L' a cdv g) (cells:=[]) F N rfl List.nodup_nil (fun _ _ _ h=>nomatch h) (fun b o e=>st b o (q.r.B b o e)) (fun j n v hn hv=>?_) (fun _ _ h=>nomatch h) (fun x dx e=>?_) (fun e=>by rw[q.hself0 e];rfl) q.hh q.hlen q.hdx
 ·refine Aa (Fw hv) fun x hx hq2=>?_;subst hq2
  have hj:j < D.pargs.length:=by
   have:=(zn.mp hx).1
   lia
  have hnj:D.pargs[j]? =some n:=by
   have:(D.pargs++D.locs)[j]? =some n:=hn
   rwa[zJ hj]at this
  have hl:D.scope.names.lookup n=some .local:=(At.kinds n (zQ hn)).elim id fun h=>absurd h.2 (by rw[hc];exact List.not_mem_nil)
  show match D.scope.names.lookup n with |some .local=>_ |some _=>_ |none=>False
  rw[hl]
  refine Aa (q.hvs.get hx) fun rv e1 e2=>?_
  exact⟨rv,Ke q.hmeth (Iq At) hnj e1,.v e2⟩
 ·refine Aw (q.hself x dx e) fun z1 z2=>?_
  exact⟨N6 q.hmeth (Iq At) e,z1,z2⟩
theorem Os.X1{cm:Str→Option Value}{cells:List (Addr×Obj)}(q:Os c (d+1) f A₀ A R σ s m led sd vs rvs fs hp D.Af)(At:FnAt c k D a cdv)(hm:D.Af=false)(har:vs.length=D.pargs.length)(hfr:A.frames=some (f.env::outer)){mL:Str→Option Value}(F:Fr g L' h₁ mL)
  (hL:∀{i:Nat} {n:Str} {v:Value},D.pargs[i]? =some n→rvs[i]? =some v→D.scope.names.lookup n=some .local→mL n=some v) (hC:∀{i:Nat} {n:Str} {v:Value},D.pargs[i]? =some n→rvs[i]? =some v→D.scope.names.lookup n=some .cell→cm n=some v)
  (N:News g L' h₁ (cells++led)) (ca:CellsAre cm (cellsFrom (L'+1) D.scope.names []) cells) (hlt:∀p∈led,p.1 < L') (B':Below A base (f.env::outer) g) (st:f.h₀.StaysIn g):
  Rel c (B9 D (cellsFrom (L'+1) D.scope.names []) L' a cdv g) (R.call led sd) ⟨start vs n,[],B1 fs,hp⟩ h₁ mL (cells++led)∧L8 c (B9 D (cellsFrom (L'+1) D.scope.names []) L' a cdv g) (A.deeper (B9 D (cellsFrom (L'+1) D.scope.names []) L' a cdv g).env) d∧E4 c (B9 D (cellsFrom (L'+1) D.scope.names []) L' a cdv g):=by
 have hrl:=q.hvs.length
 have nd2:((cellsFrom (L'+1) D.scope.names []).map (·.2)).Nodup:=aQ List.nodup_nil fun _ h=>nomatch h
 have keys:=Ty ca
 refine⟨?_,q.G.call q.nr hfr B' At.kind st,Fh At (K7 At _) nd2⟩
 refine q.r.enter (f':=B9 D (cellsFrom (L'+1) D.scope.names []) L' a cdv g) (cells:=cells) F N keys (keys▸nd2) (fun p hp x hx=>?_) (fun b o e=>st b o (q.r.B b o e)) (fun j n v hn hv=>?_) (fun n b hb=>?_) (fun x dx e=>?_) (fun e=>by rw[q.hself0 e];rfl) q.hh q.hlen q.hdx
 ·refine Nat.lt_trans (hlt p hp) ?_
  have:x.1∈(cellsFrom (L'+1) D.scope.names []).map (·.2):=keys▸zA.mpr ⟨x,hx,rfl⟩
  refine Aa (zA.mp this) fun y hy e=>?_
  rw[←e];exact Qt (zS L') (fun _ h=>absurd h List.not_mem_nil) y hy
 ·refine Aa (Fw hv) fun x hx hq2=>?_;subst hq2
  have hj:j < D.pargs.length:=by
   have:=(zn.mp hx).1
   lia
  have hnj:D.pargs[j]? =some n:=by
   have:(D.pargs++D.locs)[j]? =some n:=hn
   rwa[zJ hj]at this
  refine Aa (q.hvs.get hx) fun rv e1 e2=>?_
  show match D.scope.names.lookup n with |some .local=>_ |some _=>_ |none=>False
  rcases At.kinds n (zQ hn)with hl |⟨hl,hcc⟩
  ·rw[hl];exact⟨rv,hL hnj e1 hl,.v e2⟩
  ·rw[hl]
   refine zg (NF At (m:=L'+1) hcc) fun b hb=>?_
   refine Aa (Qq ca hb) fun o o1 o2=>?_
   exact⟨b,o,rv,hb,zk _ o1,by rw[o2,hC hnj e1 hl],.v e2⟩
 ·refine Aa (Qq ca hb) fun o o1 o2=>?_
  exact⟨o,_,zk _ o1,o2⟩
 ·exact nomatch ((zy Option.isSome e).symm.trans (q.hmeth.trans hm):true=false)
theorem Os.args(q:Os c (d+1) f A₀ A R σ s m led sd vs rvs fs hp D.Af)(har:vs.length=D.pargs.length):(AG sd++rvs).length=(D.AC c.self).length:=Kd q.hmeth (q.hvs.length.trans har)
theorem Os.room(q:Os c (d+1) f A₀ A R σ s m led sd vs rvs fs hp D.Af):A.depth < recursionLimit:=by have:=q.G.depth;have:=q.nr.d;lia
theorem So{K:Val→List (Option Val)→List Cell→Prop}{Rp:PySem.Result→Shared→Prop}(hok:PU c f R s m led sd K Rp){f':Fx}{R':Rec}{σ':St}{s':Shared}{m':Str→Option Value}{led':List (Addr×Obj)}
  (sm:An s s') (le:(R.call led sd).le R') (r':Rel c f' R' σ' s'.heap m' led') {lv:LV} {rv:Value} (hk:OL K lv σ') (hlr:LR c R' lv rv):LeaveK f.h₀ f.L m f'.h₀ Rp rv s':=by
 refine Aa (Ad hk) fun x hx hk=>?_
 refine Aa (Ad hk) fun fs' HD hk=>?_
 exact leaveK_ r'.F r'.N fun F'' N''=>hok x fs' σ'.heap rv s' f' R' σ' m' led' lv hk sm le r' hx hlr HD rfl F'' N''
theorem H4{X:AN→List (Option Val)→List Cell→Prop}{Rp:PySem.Result→Shared→Prop}(hox:Me c f A R s m led sd X Rp){f' f'':Fx}{s₁:Shared}{Q:Unit→Shared→Prop}{E:Value→Shared→Prop}(sm₁:An s s₁)(hfr:A.frames=some (f.env::outer))(FG:Fr f.h₀ f.L f'.h₀ m)(hL:f'.h₀.get? f'.L=none){x:AN}{σ':St}{R' R'':Rec}{ev:Value}{s':Shared}
  (le:(R.call led sd).Lm R'') (tr:∀m' led' fs',RelL c f' R' σ' m' led'→fz σ'.own σ'.self=some fs'→RelL c f'' R'' σ' m' led') (sm:An s₁ s') (hx:Dv X x σ') (he:am c f' (A.deeper f'.env) x σ' R' ev s') (hQ:∀s'',Rp (.error ev) s''→Q () s''):wpAny (model c.prog c.w) (A.deeper f'.env) (leaving f'.env ev) Q E s':=by
 obtain⟨e,T,B,a0,m',led',outer',hx1,hv,hT,hA,mk,hB,hl,hn,up,r⟩:=he
 subst hx1;subst hv
 cases(Around.frames_deeper hfr).symm.trans hA
 refine Aa (Ad hx) fun fs' HD hx=>?_
 refine mk.leave (Around.frames_deeper hfr) rfl fun h' fl sl=>?_
 refine hQ _ (hox e T B a0 outer fs' σ'.heap _ f'' R'' σ' m' led' hx (sm₁.trans (sm.trans AK)) le (tr _ _ _ r HD) HD rfl hT hfr fl (fun b o hb hnm=>hB b o (FG.keep b o hb) fun hm=>?_) hl (fun p hp=>?_) ((Heap.UpToSlots.of_keeps FG.keep).trans (up.trans sl)) ((up.trans sl).ns FG.ns))
 ·refine Aa (List.mem_filterMap.mp hm) fun env he hf=>?_
  rcases zI.mp he with e1 |he
  ·rw[e1]at hf
   have e2:f.L=b:=ze hf
   rw[e2.symm,kts_self FG]at hb;exact nomatch hb
  ·exact hnm (List.mem_filterMap.mpr ⟨env,he,hf⟩)
 ·exact kts_none FG.keep (hn p hp)
theorem KY{X:AN→List (Option Val)→List Cell→Prop}{Rp:PySem.Result→Shared→Prop}(hox:Me c f A R s m led sd X Rp){f':Fx}{s₁:Shared}{Q:Unit→Shared→Prop}{E:Value→Shared→Prop}(sm₁:An s s₁)(hfr:A.frames=some (f.env::outer))(FG:Fr f.h₀ f.L f'.h₀ m)(hL:f'.h₀.get? f'.L=none){x:AN}{σ':St}{R':Rec}{ev:Value}{s':Shared}
  (le:(R.call led sd).Lm R') (sm:An s₁ s') (hx:Dv X x σ') (he:am c f' (A.deeper f'.env) x σ' R' ev s') (hQ:∀s'',Rp (.error ev) s''→Q () s''):wpAny (model c.prog c.w) (A.deeper f'.env) (leaving f'.env ev) Q E s':=
 H4 hox sm₁ hfr FG hL le (fun _ _ _ r _=>r) sm hx he hQ
theorem call_plain{C':Cfg}{fn:Fn}{K:Val→List (Option Val)→List Cell→Prop}{X:AN→List (Option Val)→List Cell→Prop}{Rp:PySem.Result→Shared→Prop}(q:Os c (d+1) f A₀ A R σ s m led sd vs rvs fs hp D.Af)(At:FnAt c k D a cdv)(hc:D.cells=[])(har:vs.length=D.pargs.length)
  (hb:IM c C' d D.body D.qual D.scope a cdv D.names D.Af fn.body) (hw:Au C' (Dv X) fn.body (Ef K) ⟨start vs n,[],B1 fs,hp⟩) (hok:PU c f R s m led sd K Rp) (hox:Me c f A R s m led sd X Rp):codeAny (model c.prog c.w) A (.call (.ref a) ⟨AG sd++rvs,[]⟩) Rp s:=by
 refine DS q.G.fr fun outer A₁ base hfr₀ B₀=>?_
 have hfr:A.frames=some (f.env::outer):=q.nr.f.trans hfr₀
 refine DT q.G.T fun p loose mean mg mb T=>?_
 refine DT At.at_ fun dV kV doc pm an h=>Nf h fun ct oc od osl hlk hbind=>?_
 have Xs:c.K.In s.heap:=q.G.X.keeps q.r.F.keep
 refine callX_plain B₀ q.r.F q.r.N T.nolimit hfr rfl q.G.kind (Xs _ _ hlk) rfl (codeRec_of Xs At.code) q.room (BindsTo.of_eq (hbind _ (q.args har))) (fun y hy=>DP At hc y.1 (Jb (b:=y.2) hy).1) (fun g L' h₁ FG F N B' st hlt=>?_) (E9 At hc) At.co At.gen At.kind
 refine Bx (q.frame (n:=n) At hc har hfr F N B' st) fun r₁ G' NM=>?_
 have sm₁:An s {s with heap:=h₁,toks:=s.toks+((D.AC c.self).zip (AG sd++rvs)).length}:=Al (zB _ _)
 refine hb (B9 D [] L' a cdv g) _ (R.call led sd) _ {s with heap:=h₁,toks:=s.toks+((D.AC c.self).zip (AG sd++rvs)).length} _ _ (Dv X) (Ef K) rfl rfl rfl rfl rfl q.hmeth G' NM (R8 q.hmeth (q.args har)) r₁ hw _ _
  (fun x σ' R' ev s' le sm hx he=>KY (f':=B9 D [] L' a cdv g) hox sm₁ hfr FG (kts_self F) le sm hx he fun _ h=>h) PassesOwn.leaving fun o σ' R' fl s' le sm hk rx hfl=>?_
 refine Av rx fun m' led' r'=>?_
 have fin:=fun{lv rv}=>So (lv:=lv) (rv:=rv) hok (sm₁.trans sm) le r'
 induction o using Out.casesOn with
 |next=>cases fl with
  |next=>exact fin (lv:=.v .none) hk (.v .none)
  |_=>exact hfl.elim
 |ret lv=>cases fl with
  |ret rv=>exact fin hk hfl
  |_=>exact hfl.elim
 |brk=>exact hk.elim
 |cont=>exact hk.elim
theorem call_cells{C':Cfg}{fn:Fn}{K:Val→List (Option Val)→List Cell→Prop}{X:AN→List (Option Val)→List Cell→Prop}{Rp:PySem.Result→Shared→Prop}(q:Os c (d+1) f A₀ A R σ s m led sd vs rvs fs hp D.Af)(At:FnAt c k D a cdv)(hm:D.Af=false)(har:vs.length=D.pargs.length)
  (hb:IM c C' d D.body D.qual D.scope a cdv D.names D.Af fn.body) (hw:Au C' (Dv X) fn.body (Ef K) ⟨start vs n,[],B1 fs,hp⟩) (hok:PU c f R s m led sd K Rp) (hox:Me c f A R s m led sd X Rp):codeAny (model c.prog c.w) A (.call (.ref a) ⟨AG sd++rvs,[]⟩) Rp s:=by
 refine DS q.G.fr fun outer A₁ base hfr₀ B₀=>?_
 have hfr:A.frames=some (f.env::outer):=q.nr.f.trans hfr₀
 refine DT q.G.T fun p loose mean mg mb T=>?_
 refine DT At.at_ fun dV kV doc pm an h=>Nf h fun ct oc od osl hlk hbind=>?_
 have Xs:c.K.In s.heap:=q.G.X.keeps q.r.F.keep
 refine codeAny_with_toks (zu s.toks) ?_
 have e0:AG sd++rvs=rvs:=by rw[Kn q.hmeth hm];rfl
 have en:D.AC c.self=D.pargs:=Ir hm
 have nd:D.pargs.Nodup:=en▸Iq At
 refine callX_cells B₀ q.r.F q.r.N T.nolimit hfr rfl q.G.kind (Xs _ _ hlk) rfl (codeRec_of Xs At.code) q.room (BindsTo.of_eq (hbind _ (q.args har))) (fun n y hy=>(N5 At y.1 (Jb (b:=y.2) hy).1).imp id fun h=>⟨h.1,Jr.mpr (NF At h.2)⟩) (At.cnm▸At.cnd) (fun g L' h₁ tk cells FG F N ca B' st hlt=>?_) At.co At.gen At.kind
 rw[e0,en]at F ca
 refine Bx (q.X1 (n:=n) At hm har hfr F (fun h1 h2 h3=>Xf nd h1 h2 h3) (fun h1 h2 h3=>Xb nd h1 h2 h3) N ca hlt B' st) fun r₁ G' NM=>?_
 have up:∀{h₁:Heap} {s':Shared},An {s with heap:=h₁,toks:=tk} s'→s.toks≤s'.toks→An s s':=fun sm ht=>⟨sm.gens,sm.drawn,sm.os,ht⟩
 refine hb (B9 D (cellsFrom (L'+1) D.scope.names []) L' a cdv g) _ (R.call led sd) _ {s with heap:=h₁,toks:=tk} _ _ (Dv X) (Ef K) rfl rfl rfl rfl rfl q.hmeth G' NM (fun h=>by rw[hm]at h;exact nomatch h) r₁ hw _ _
  (fun x σ' R' ev s' le sm hx he=>?_) PassesOwn.leaving fun o σ' R' fl s' le sm hk rx hfl=>?_
 ·refine KY (f':=B9 D (cellsFrom (L'+1) D.scope.names []) L' a cdv g) (Rp:=fun r s'=>s.toks≤s'.toks→Rp r s') (s:={s with toks:=tk}) (fun e T B a0 outer fs' h' s' f' R' σ' m' led' x1 x2 x3 x4 x5 x6 x7 x8 x9 y1 y2 y3 y4 y5 ht=>hox e T B a0 outer fs' h' s' f' R' σ' m' led' x1 (up x2 ht) x3 x4 x5 x6 x7 x8 x9 y1 y2 y3 y4 y5) AK hfr FG (kts_self F) le sm hx he fun _ h=>h
 ·refine Av rx fun m' led' r'=>?_
  have fin:∀{lv rv},OL K lv σ'→LR c R' lv rv→LeaveK f.h₀ f.L m g (fun r s'=>s.toks≤s'.toks→Rp r s') rv s':=fun{lv rv} hk hl=>by
   refine Aa (Ad hk) fun x hx hk=>?_
   refine Aa (Ad hk) fun fs' HD hk=>?_
   exact leaveK_ r'.F r'.N fun F'' N'' ht=>hok x fs' σ'.heap rv s' _ R' σ' m' led' lv hk (up sm ht) le r' hx hl HD rfl F'' N''
  induction o using Out.casesOn with
  |next=>cases fl with
   |next=>exact fin (lv:=.v .none) hk (.v .none)
   |_=>exact hfl.elim
  |ret lv=>cases fl with
   |ret rv=>exact fin hk hfl
   |_=>exact hfl.elim
  |brk=>exact hk.elim
  |cont=>exact hk.elim
end
structure Dz(c:Cx)(P:Kx)(Ds:List (Dd×Addr×Value)):Prop where
 hlen:P.fns.length=Ds.length
 hfad:c.fad.length=Ds.length
 hfn:∀(k:Nat) (D:Dd) (a:Addr) (cdv:Value),Ds[k]? =some (D,a,cdv)→FnAt c k D a cdv
 har:∀(k:Nat) (D:Dd) (a:Addr) (cdv:Value) (fn:Fn),Ds[k]? =some (D,a,cdv)→P.fns[k]? =some fn→fn.ar=D.pargs.length
 cel:∀(k:Nat) (D:Dd) (a:Addr) (cdv:Value),Ds[k]? =some (D,a,cdv)→D.Af=true→D.cells=[]
 few:Ds.length≤1000
noncomputable def Ii(Ds:List (Dd×Addr×Value))(k:Nat):Bool:=match Ds[k]? with |some (D,_,_)=>D.Af |none=>false
theorem Dz.get{P:Kx}{Ds:List (Dd×Addr×Value)}(H:Dz c P Ds){k:Nat}{a:Addr}(h:c.fad[k]? =some a):∃fn D cdv,P.fns[k]? =some fn∧Ds[k]? =some (D,a,cdv)∧k < 1000:=by
 have hk:=(zn.mp h).1
 have h2:k < Ds.length:=H.hfad▸hk
 obtain⟨⟨D,a',cdv⟩,hD⟩:∃D,Ds[k]? =some D:=⟨Ds[k],jq h2⟩
 have e:a'=a:=ze ((H.hfn k D a' cdv hD).fad.symm.trans h)
 exact⟨P.fns[k]'(H.hlen▸h2),D,cdv,jq _,e▸hD,z4 h2 H.few⟩
theorem Mk{C C':Cfg}{P:Kx}{d:Nat}{Ds:List (Dd×Addr×Value)}(H:Dz c P Ds)(hC:C.call=A8 P (d+1))(hC':C'=⟨P.rx,A8 P d,P.init,P.nf⟩)
  (hbody:∀(k:Nat) (D:Dd) (a:Addr) (cdv:Value) (fn:Fn),Ds[k]? =some (D,a,cdv)→P.fns[k]? =some fn→IM c C' d D.body D.qual D.scope a cdv D.names D.Af fn.body):
  AM c C (d+1) (Ii Ds):=by
 intro k fs vs hp K X a had hcall f A₀ A R σ s m led sd rvs q Rp hok hox
 refine Hn (H.get had) fun fn D cdv hf hD _=>?_
 have hq:Ii Ds k=D.Af:=by unfold Ii;rw[hD]
 rw[hq]at q
 rw[hC]at hcall
 have hcall:(match P.fns[k]? with |some fn=>Be (Nat.beq vs.length fn.ar) (Au ⟨P.rx,A8 P d,P.init,P.nf⟩ (Dv X) fn.body (Ef K) ⟨start vs fn.nloc,[],B1 fs,hp⟩) False |none=>_):=hcall
 rw[hf]at hcall
 refine Aw (Bm hcall) fun har0 hcall=>?_
 rw[←hC']at hcall
 have har:vs.length=D.pargs.length:=(zw har0).trans (H.har k D a cdv fn hD hf)
 induction hm:D.Af using za with
 |true=>exact call_plain q (H.hfn k D a cdv hD) (H.cel k D a cdv hD hm) har (hbody k D a cdv fn hD hf) hcall hok hox
 |false=>exact call_cells q (H.hfn k D a cdv hD) hm har (hbody k D a cdv fn hD hf) hcall hok hox
end
end
section
structure Sx where
 names:List Str
 cs:Scope
 Af:Bool
structure At(c:Cx)(S:Sx)(d:Nat)(f:Fx)(A:Around)(X:AN→St→Prop)(R:Rec)(σ:St)(s:Shared):Prop where
 G:L8 c f A d
 NM:E4 c f
 names:f.names=S.names
 cs:f.cs=S.cs
 Af:R.sd.isSome=S.Af
 pos:S.Af=true→0 < s.toks
 r:Ap c f R σ s.heap
theorem At.up{c:Cx}{S:Sx}{d:Nat}{f:Fx}{A:Around}{X:AN→St→Prop}{R R':Rec}{σ σ':St}{s s':Shared}(a:At c S d f A X R σ s)(le:R.le R')(sm:An s s')(r:Ap c f R' σ' s'.heap):At c S d f A X R' σ' s':=
 {a with Af:=by rw[le.sd];exact a.Af,pos:=fun h=>z4 (a.pos h) sm.tk,r:=r}
noncomputable def ap(c:Cx):Prop:=∀(n:Str) (v:Val),(n,v)∈c.gl→∃rv,nsIn c.K mainGlobals n=some (some rv)∧∀R,c.V R v rv
structure PO(c:Cx)(n:Str):Prop where
 get:plainGet c.K c.PC n=true
 dict:hasDictIn c.K c.PC=true
 find:∃attr,findIn c.K (.ref c.PC) n=some attr∧noGet c.K attr=true
 set:findIn c.K (.ref c.PC) "__setattr__"=some (some (.builtin "object.__setattr__"))
 over:plainOver c.K c.PC=true
 taker:takerIn c.K c.PC n=some none
structure Dy(c:Cx):Prop where
 gl:ap c
 attrs:∀(k:Nat) (n:Str),c.attrs[k]? =some n→PO c n
 nd:c.attrs.Nodup
 few:c.attrs.length≤900
noncomputable def Gy:P2→Option CmpOp
 | .eq=>some .Eq | .ne=>some .NotEq | .lt=>some .Lt | .gt=>some .Gt | .ge=>some .GtE | .isin=>some .In
 |_=>none
noncomputable def HW:P2→Option Operator
 | .add=>some .Add | .sub=>some .Sub | .mul=>some .Mult | .fdiv=>some .FloorDiv | .mod=>some .Mod
 |_=>none
noncomputable def Dm(x:PySem.Expr):Bool:=Nat.beq x.ctorIdx 7
theorem HV{op:CmpOp}{x:PySem.Expr}(h:Dm x=false):behindInMarks op x=false:=by
 cases x <;>first |rfl |cases h
structure Ma(c:Cx)(S:Sx)(n:Str)(v:Value):Prop where
 gl:nsIn c.K mainGlobals n=some none
 bi:bootBuiltins n=some v
 nn:n≠"__name__"
 k:S.cs.names.lookup n=some .globalImplicit
 db:(n==("__debug__":Str))=false
structure Te(c:Cx)(S:Sx)(n:Str)(v:Value):Prop where
 gl:nsIn c.K mainGlobals n=some (some v)
 k:S.cs.names.lookup n=some .globalImplicit
 db:(n==("__debug__":Str))=false
section
variable {c:Cx}{S:Sx}{d:Nat}{f:Fx}{A:Around}{X:AN→St→Prop}{R R':Rec}{σ σ':St}{s s':Shared}{E:Value→Shared→Prop}{m:Str→Option Value}{led:List (Addr×Obj)}{rx:Rx}{K:LV→St→Prop}
theorem IW(a:At c S d f A X R σ s){n:Str}{v:Value}{pos:Pos}{Q:Value→Shared→Prop}(b:Ma c S n v)(h:Q v s):wpAny (model c.prog c.w) A (eval (.Name n pos) f.env) Q E s:=by
 refine DT a.G.T fun p loose mean mg mb T=>?_
 have T:=topRead_of T
 refine Av a.r fun m led r=>?_
 exact nameX_B r.F a.G.X T b.gl b.bi b.nn h a.G.kind (by show f.cs.names.lookup n=_;rw[a.cs];exact b.k) b.db
theorem GE(a:At c S d f A X R σ s){n:Str}{v:Value}{pos:Pos}{Q:Value→Shared→Prop}(b:Te c S n v)(h:Q v s):wpAny (model c.prog c.w) A (eval (.Name n pos) f.env) Q E s:=by
 refine DT a.G.T fun p loose mean mg mb T=>?_
 have T:=topRead_of T
 refine Av a.r fun m led r=>?_
 exact nameX_K r.F a.G.X T b.gl h a.G.kind (by show f.cs.names.lookup n=_;rw[a.cs];exact b.k) b.db
theorem E0(a:At c S d f A X R σ s){x dx:Addr}(hs:R.sd=some (x,dx)){pos:Pos}{Q:Value→Shared→Prop}(hk:S.cs.names.lookup c.self=some .local)(hd:(c.self==("__debug__":Str))=false)(h:Q (.ref x) s):
  wpAny (model c.prog c.w) A (eval (.Name c.self pos) f.env) Q E s:=by
 refine Av a.r fun m led r=>?_
 exact nameX_L r.F (r.self x dx hs).1 h a.G.kind (by show f.cs.names.lookup _=_;rw[a.cs];exact hk) hd
theorem My(r:Rel c f R σ s.heap m led){x dx:Addr}(hs:R.sd=some (x,dx)):∃es n,(dx,dictOf es n)∈led∧Ar c R σ.self es∧InstAt s.heap x (instObj c.PC dx) c.PC (some (dictOf es n)):=by
 refine Bx (r.self x dx hs) fun _ z h0=>AH h0 fun es n h1 h2=>?_
 exact⟨es,n,h1,h2,r.get z,rfl,rfl,r.BE h1⟩
theorem handed{c:Cx}{R:Rec}{l:LV}{rv:Value}(h:LR c R l rv):handedIn rv=true:=by
 induction h using LR.casesOn with
 |v y=>cases y <;>rfl
 |_=>rfl
theorem T8(ok:Dy c)(a:At c S d f A X R σ s){x dx:Addr}(hs:R.sd=some (x,dx)){k:Nat}{n:Str}{v:LV}{ex:Bool}(hn:c.attrs[k]? =some n)(hv:Ax σ.self k=some v){Q:Value→Shared→Prop}
  (h:∀rv s',An s s'→Ap c f R σ s'.heap→LR c R v rv→Q rv s'):wpAny (model c.prog c.w) A (getAttr (.ref x) n ex) Q E s:=by
 refine Av a.r fun m led r=>?_
 refine Aq (My r hs) fun es nn h1 h2 I=>?_
 have at_:=ok.attrs k n hn
 refine Aa at_.find fun attr f1 f2=>?_
 have:=h2.1 k n hn
 rw[hv]at this
 refine Aa this fun rv g1 g2=>?_
 exact get_own r.F a.G.X I at_.get at_.dict f1 f2 g1 (handed g2) (h rv _ (Al (h':=s.heap) (zP _)) ⟨m,led,r⟩ g2)
theorem Qu{α:Type}(l:List (Option α)):∀(k:Nat) (v:α),k < l.length→(match Ax l k with |some _=>cnt (CE l k v)=cnt l |none=>cnt (CE l k v)=cnt l+1):=by
 induction l with
 |nil=>exact fun k v h=>absurd h (jy k)
 |cons x r ih=>
  intro k v h
  induction k using zz with
  |zero=>induction x using zh <;>rfl
  |succ k=>
   have q:=ih k v (jG h)
   induction x using zh with
   |none=>exact q
   |some x=>
    show(match Ax r k with |some _=>cnt (CE r k v)+1=cnt r+1 |none=>cnt (CE r k v)+1=cnt r+1+1)
    revert q
    induction Ax r k using zh <;>exact zy (· +1)
theorem Xi{α:Type}(l:List (Option α)):cnt l≤l.length:=by
 induction l with
 |nil=>exact zu _
 |cons x r ih=>induction x using zh with
  |none=>exact z7 ih
  |some _=>exact z3 ih
section
variable {name:Str}{hsh:Int}{t:Tok}{key v:Value}{e:DictEntry}{r:List DictEntry}
theorem Kh(h:e.key.isStr name=true):putL name hsh key v (e::r)=⟨e.hash,e.key,v⟩::r:=z5 h
theorem Kg(h:e.key.isStr name=false):putL name hsh key v (e::r)=e::putL name hsh key v r:=zR (by rw[h];exact jp)
theorem P8(hk:∀h u,DictEntry.refKey ⟨h,key,u⟩=false)(es:List DictEntry):(putL name hsh key v es).any (·.refKey)=es.any (·.refKey):=by
 induction es with
 |nil=>show(DictEntry.refKey ⟨hsh,key,v⟩ || false)=false;rw[hk];rfl
 |cons e r ih=>induction h:e.key.isStr name using za with
  |true=>rw[Kh h];rfl
  |false=>rw[Kg h,JB,JB,ih]
theorem Ic{x:Value}{n n':Str}(h:x.isStr n=true)(hn:n'≠n):x.isStr n'=false:=by
 cases x with
 |str y u=>exact jd.mpr fun e=>hn (e.symm.trans (eq_of_beq h))
 |_=>exact Bool.noConfusion h
theorem OT(n':Str)(es:List DictEntry):((putL name hsh (.str name t) v es).find? (·.key.isStr n')).map (·.val)=if n'=name then some v else(es.find? (·.key.isStr n')).map (·.val):=by
 have fy:∀{e:DictEntry} {r:List DictEntry},e.key.isStr n'=true→((e::r).find? (·.key.isStr n')).map (·.val)=some e.val:=fun{e r} h=>by rw[List.find?_cons_of_pos (p:=fun e:DictEntry=>e.key.isStr n') h];rfl
 have fn:∀{e:DictEntry} {r:List DictEntry},e.key.isStr n'=false→((e::r).find? (·.key.isStr n')).map (·.val)=(r.find? (·.key.isStr n')).map (·.val):=fun{e r} h=>by rw[List.find?_cons_of_neg (p:=fun e:DictEntry=>e.key.isStr n') (by rw[h];exact jp)]
 by_cases hn:n'=name
 ·rw[z5 hn]
  have hk:(Value.str name t).isStr n'=true:=beq_iff_eq.mpr hn.symm
  induction es with
  |nil=>exact fy hk
  |cons e r ih=>induction h:e.key.isStr name using za with
   |true=>rw[Kh h];exact fy (hn▸h)
   |false=>rw[Kg h,fn (hn▸h)];exact ih
 ·rw[zR hn]
  induction es with
  |nil=>exact fn (e:=⟨hsh,.str name t,v⟩) (jd.mpr fun e=>hn e.symm)
  |cons e r ih=>induction h:e.key.isStr name using za with
   |true=>rw[Kh h,fn (e:=⟨e.hash,e.key,v⟩) (Ic h hn),fn (Ic h hn)]
   |false=>
    rw[Kg h]
    induction h':e.key.isStr n' using za with
    |true=>rw[fy h',fy h']
    |false=>rw[fn h',fn h'];exact ih
end
theorem EO(n:Str)(es:List DictEntry):getL n es=match(es.find? (·.key.isStr n)).map (·.val)with |some v=>some (some v) |none=>if es.any (·.refKey)then none else some none:=by
 unfold getL
 induction es.find? (·.key.isStr n)using zh <;>rfl
theorem H8{name n':Str}{hsh:Int}{t:Tok}{v:Value}{es:List DictEntry}:getL n' (putL name hsh (.str name t) v es)=if n'=name then some (some v)else getL n' es:=by
 rw[EO,OT,P8 (fun _ _=>rfl),EO]
 by_cases h:n'=name
 ·rw[z5 h,z5 h]
 ·rw[zR h,zR h]
theorem Rm{name:Str}{hsh:Int}{key v:Value}(es:List DictEntry):(putL name hsh key v es).length=if es.any (·.key.isStr name)then es.length else es.length+1:=by
 induction es with
 |nil=>rfl
 |cons e r ih=>
  rw[JB]
  induction h:e.key.isStr name using za with
  |true=>rw[Kh h];rfl
  |false=>
   rw[Kg h,zK,ih,Bool.false_or]
   by_cases q:r.any (·.key.isStr name)=true
   ·rw[z5 q,z5 q];rfl
   ·rw[zR q,zR q];rfl
theorem UK{l:List Str}(h:l.Nodup){i j:Nat}{n:Str}(a:l[i]? =some n)(b:l[j]? =some n):i=j:=by
 refine zg (zn.mp a) fun h1 q1=>?_
 refine zg (zn.mp b) fun h2 q2=>?_
 exact(JJ h).mp (q1.trans q2.symm)
theorem Oe(ok:Dy c)(a:At c S d f A X R σ s){x dx:Addr}(hs:R.sd=some (x,dx)){k:Nat}{n:Str}{v:LV}{rv:Value}(hn:c.attrs[k]? =some n)(hv:LR c R v rv){Q:Unit→Shared→Prop}
  (h:∀s',An s s'→Ap c f R (σ.SE k v) s'.heap→Q () s'):wpAny (model c.prog c.w) A (setAttr (.ref x) n rv) Q E s:=by
 refine Av a.r fun m led r=>?_
 refine Aq (My r hs) fun es nn h1 h2 I=>?_
 have at_:=ok.attrs k n hn
 refine HO h2 fun p1 p2 p3 p4=>?_
 have hkl:k < σ.self.length:=by rw[p4];exact(zn.mp hn).1
 have hex:(getL n es).isSome=true:=by
  have:=p1 k n hn
  revert this
  induction Ax σ.self k using zh with
  |none=>intro h;rw[h];rfl
  |some v=>rintro⟨rv,h,_⟩;rw[h];rfl
 have hany:es.any (·.key.isStr n)=(Ax σ.self k).isSome:=by
  have:=p1 k n hn
  revert this
  induction q:Ax σ.self k using zh with
  |none=>
   intro h
   rw[EO]at h
   induction hf:es.find? (·.key.isStr n)using zh with
   |none=>
    rw[Option.isSome_none]
    rw[List.any_eq_false]
    exact fun e he=>by simpa using List.find?_eq_none.mp hf e he
   |some e=>rw[hf]at h;cases h
  |some v=>
   rintro⟨rv,h,_⟩
   rw[EO]at h
   induction hf:es.find? (·.key.isStr n)using zh with
   |none=>rw[hf]at h;simp only[Option.map_none]at h;split at h <;>cases h
   |some e=>
    rw[Option.isSome_some,List.any_eq_true]
    exact⟨e,List.mem_of_find?_eq_some hf,by simpa using List.find?_some hf⟩
 have hlen:=Rm (name:=n) (hsh:=PyData.keyHash c.w.params n) (key:=.str n (s.toks+1)) (v:=rv) es
 rw[hany]at hlen
 have hcnt:=Qu σ.self k v hkl
 have hF:Ar c R (CE σ.self k v) (putL n (PyData.keyHash c.w.params n) (.str n (s.toks+1)) rv es):=by
  refine⟨fun j n' hj=>?_,fun n' hn'=>?_,?_,by rw[FO];exact p4⟩
  ·rw[H8]
   by_cases e:j=k
   ·subst e
    rw[hn]at hj;cases hj
    rw[GL hkl]
    exact⟨rv,by simp,hv⟩
   ·have hne:n'≠n:=fun e'=>e (UK ok.nd hj (e'▸hn))
    rw[J2 e,zR hne]
    exact p1 j n' hj
  ·rw[H8]
   have hne:n'≠n:=fun e'=>hn' (e'▸zQ hn)
   rw[zR hne];exact p2 n' hn'
  ·revert hlen hcnt
   induction Ax σ.self k using zh with
   |none=>intro h1 h2;simp only[Option.isSome_none,jB,if_false]at h1 h2;rw[h1,h2];lia
   |some y=>intro h1 h2;simp only[Option.isSome_some,if_true]at h1 h2;rw[h1,h2];exact p3
 have hbound:(putL n (PyData.keyHash c.w.params n) (.str n (s.toks+1)) rv es).length≤1000:=by
  have h3:=hF.2.2.1
  have h4:=Xi (CE σ.self k v)
  rw[FO,p4]at h4
  have:=ok.few
  lia
 refine set_dict r.F a.G.X r.N I rfl at_.set at_.over at_.taker at_.dict hex rfl (Gp _ h1 r.nd) hbound fun h' F N=>?_
 exact h _ (Al (by lia)) ⟨_,_,r.Vj hs F N hF⟩
end
end
inductive PL(c:Cx)(R:Rec)(h:Heap):List Val→List Value→Prop
 |nil:PL c R h [] []
 |cons {x:Val} {v:Value} {xs:List Val} {vs:List Value} (a:VH c R h x v) (b:PL c R h xs vs):PL c R h (x::xs) (v::vs)
def After(c:Cx)(S:Sx)(d:Nat)(f:Fx)(A:Around)(X:AN→St→Prop)(o:Option Val)(Q:Value→Shared→Prop)(R₁:Rec)(σ₁:St)(s₁:Shared):Prop:=
 ∃v,o=some v∧At c S d f A X R₁ σ₁ s₁∧∀R' rv s',R₁.le R'→An s₁ s'→Ap c f R' σ₁ s'.heap→c.V R' v rv→Q rv s'
def B7(c:Cx)(S:Sx)(n:Str)(sem:List Val→Option Val):Prop:=
 ∀{d:Nat} {f:Fx} {A:Around} {X:AN→St→Prop} {R:Rec} {σ:St} {s:Shared},At c S d f A X R σ s→∀(npos pos:Pos) (x:PySem.Expr) (xs:List PySem.Expr) (E Q:Value→Shared→Prop),(x::xs).all Ah=true→
  wpAny (model c.prog c.w) A (spliced (backTo pos (starEach (x::xs) f.env))) (fun vs s₁=>∃R₁ σ₁ ws,PL c R₁ s₁.heap ws vs∧After c S d f A X (sem ws) Q R₁ σ₁ s₁) E s→
  wpAny (model c.prog c.w) A (eval (.Call (.Name n npos) (x::xs) [] pos) f.env) Q E s
def B6(c:Cx)(S:Sx)(n:Str)(dom:Val→Bool)(sem:Val→List Val→Option Val):Prop:=
 ∀{d:Nat} {f:Fx} {A:Around} {X:AN→St→Prop} {R:Rec} {σ:St} {s:Shared},At c S d f A X R σ s→∀(apos pos:Pos) (o:PySem.Expr) (xs:List PySem.Expr) (E Q:Value→Shared→Prop),Cs o→xs.all Ah=true→xs.length < 25→(apos.endLine==pos.line)=true→
  wpAny (model c.prog c.w) A (eval o f.env) (fun ov s₁=>∃R₁ σ₁ w,At c S d f A X R₁ σ₁ s₁∧c.V R₁ w ov∧dom w=true∧
   wpAny (model c.prog c.w) A (spliced (backTo pos (starEach xs f.env))) (fun vs s₂=>∃R₂ σ₂ ws,R₁.le R₂∧c.Vs R₂ ws vs∧After c S d f A X (sem w ws) Q R₂ σ₂ s₂) E s₁) E s→
  wpAny (model c.prog c.w) A (eval (.Call (.Attribute o n apos) xs [] pos) f.env) Q E s
def Nh(c:Cx)(S:Sx)(x y:PySem.Expr)(sem:Val→Option Val):Prop:=
 ∀{d:Nat} {f:Fx} {A:Around} {X:AN→St→Prop} {R:Rec} {σ:St} {s:Shared},At c S d f A X R σ s→∀(E Q:Value→Shared→Prop),
  wpAny (model c.prog c.w) A (eval x f.env) (fun v s₁=>∃R₁ σ₁ w,VH c R₁ s₁.heap w v∧After c S d f A X (sem w) Q R₁ σ₁ s₁) E s→
  wpAny (model c.prog c.w) A (eval y f.env) Q E s
def Tn(c:Cx):Prop:=
 ∀{S:Sx} {d:Nat} {f:Fx} {A:Around} {X:AN→St→Prop} {R:Rec} {σ:St} {s:Shared} {k:Nat} {a:Addr},At c S d f A X R σ s→R.ω[k]? =some a→∀(E Q:Value→Shared→Prop),
  (∀R' q s',R.le R'→An s s'→Ap c f R' σ s'.heap→c.Z R' q (E5 a)→Q (.ref q) s')→wpAny (model c.prog c.w) A (getAttr (.ref a) "append" true) Q E s
structure kH(c:Cx)(S:Sx)(n:Str)(k:Nat):Prop where
 mth:c.mth k=false
 at_:∃a,c.fad[k]? =some a∧Te c S n (.ref a)∧keepIn c.K (.ref a)=true
structure PP(c:Cx)(n:Str)(k:Nat):Prop where
 mth:c.mth k=true
 at_:∃a,c.fad[k]? =some a∧findIn c.K (.ref c.PC) n=some (some (.ref a))∧isFn c.K (.ref a)=true∧keepIn c.K (.ref a)=true
 get:plainGet c.K c.PC n=true
 no:n∉c.attrs
def PR(c:Cx)(C:Cfg)(d:Nat)(S:Sx)(n:Str):Prop:=
 ∀{f:Fx} {A:Around} {X:AN→St→Prop} {R:Rec} {σ:St} {s:Shared} {K:LV→St→Prop} {npos pos:Pos} {x:PySem.Expr} {xs:List PySem.Expr},At c S d f A X R σ s→(x::xs).all Ah=true→
  Ho c f A X R σ s pos (x::xs) (fun vs σ=>C.call C.init (Bz C.nf) vs (σ.heap++[.taken]) (fun r fs' h=>Be (Gh r) (K (.v (.obj σ.heap.length)) (σ.BA (h.set σ.heap.length (.Ao fs')))) False) (fun _ _ _=>False))→
  Tk c f A X R σ s (.Call (.Name n npos) (x::xs) [] pos) K
section
section
variable {c:Cx}{f:Fx}{A:Around}{R:Rec}{σ:St}{s:Shared}{m:Str→Option Value}{led:List (Addr×Obj)}
theorem Ib{w:Val}{xs:List Val}{x:Int}{b:Bool}(h:CJ x (w::xs)=some b):∃y k,w=.int y∧CJ x xs=some k∧cond (FJ y x) true k=b:=
 Aa (bI h) fun y e h=>Aa (Np h) fun k e' h=>⟨y,k,e,e',ze h⟩
theorem ints_in{c:Cx}{R:Rec}{x:Int}{xs:List Val}:∀{vs:List Value} {b:Bool},c.Vs R xs vs→CJ x xs=some b→∃ns,IntsAre vs ns∧ns.any (· ==x)=b:=by
 induction xs with
 |nil=>intro vs b hs e;rw[hs.C7];exact⟨[],.nil,ze e⟩
 |cons w xs ih=>
  intro vs b hs e
  refine Aq (Ib e) fun y k ey q eb=>?_
  refine Aq hs.A9 fun v ws ev h1 h2=>?_
  rw[ey]at h1
  refine zg h1.HH fun t et=>?_
  refine Aa (ih h2 q) fun ns n1 n2=>?_
  refine⟨y::ns,by rw[ev,et];exact .cons y t n1,?_⟩
  rw[JB,n2,←eb,Ek]
  by_cases hyx:y=x <;>simp[hyx]
end
end
section
theorem Iz{xs ys:List Val}{b:Bool}(h:B5 xs ys=some b):(b=true∧CV xs ys=true)∨(b=false∧xs.length≠ys.length):=by
 induction xs using zo with
 |nil=>induction ys using zo with
  |nil=>exact .inl ⟨(ze h).symm,rfl⟩
  |cons y ys=>exact .inr ⟨(ze h).symm,(jL _).symm⟩
 |cons x xs=>induction ys using zo with
  |nil=>exact .inr ⟨(ze h).symm,jL _⟩
  |cons y ys=>
   have h:cond (CV (x::xs) (y::ys)) (some true) none=some b:=h
   induction q:CV (x::xs) (y::ys)using za with
   |false=>rw[q]at h;exact nomatch h
   |true=>rw[q]at h;exact .inl ⟨(ze h).symm,rfl⟩
section
variable {c:Cx}{f:Fx}{A A':Around}{R:Rec}{σ:St}{s s':Shared}{m:Str→Option Value}{led:List (Addr×Obj)}
theorem Vg{x y:Val}{a b:Value}(h:WK x y=true)(hx:c.V R x a)(hy:c.V R y b):SeqAt.EqAt A' s' a b true:=by
 induction x using Val.casesOn with
 |bool p=>induction y using Val.casesOn with
  |bool q=>
   rw[show a=.bool p from hx.inv,show b=.bool q from hy.inv]
   have e:(p==q)=true:=by induction p using za <;>induction q using za <;>first |rfl |exact nomatch h
   rw[←e];exact SeqAt.EqAt.bool_bool p q
  |_=>exact nomatch h
 |int p=>induction y using Val.casesOn with
  |int q=>
   refine zg hx.inv fun t e1=>zg hy.inv fun u e2=>?_
   rw[e1,e2]
   have e:(p==q)=true:=beq_iff_eq.mpr (zX ((Ek p q).symm.trans h))
   rw[←e];exact SeqAt.EqAt.int_int p t q u
  |_=>exact nomatch h
 |str p=>induction y using Val.casesOn with
  |str q=>
   refine Aa hx.inv fun t _ e1=>Aa hy.inv fun u _ e2=>?_
   rw[e1,e2]
   have e:((⟨p.toArray⟩:Str)==⟨q.toArray⟩)=true:=(BX p q).trans h
   rw[←e];exact SeqAt.EqAt.str_str _ t _ u
  |_=>exact nomatch h
 |_=>exact nomatch h
theorem LL{xs:List Val}:∀{ys:List Val} {vs us:List Value},CV xs ys=true→c.Vs R xs vs→c.Vs R ys us→vs.length=us.length∧∀(j:Nat) (v u:Value),vs[j]? =some v→us[j]? =some u→SeqAt.EqAt A' s' v u true:=by
 induction xs with
 |nil=>intro ys vs us h hx hy;induction ys using zo with
  |nil=>rw[AU.C7 hx,AU.C7 hy];exact⟨rfl,fun j v u h1 _=>nomatch (js.symm.trans h1:none=some _)⟩
  |cons _ _=>exact nomatch h
 |cons x xs ih=>intro ys vs us h hx hy;induction ys using zo with
  |nil=>exact nomatch h
  |cons y ys=>
   have h:=condT h
   refine Aq (AU.A9 hx) fun v vs' ev a1 a2=>Aq (AU.A9 hy) fun u us' eu b1 b2=>?_
   rw[ev,eu]
   refine Aw (ih h.2 a2 b2) fun l k=>⟨zy (· +1) l,fun j v' u' h1 h2=>?_⟩
   induction j using zz with
   |zero=>cases h1;cases h2;exact Vg h.1 a1 b1
   |succ j=>exact k j v' u' h1 h2
theorem range_all(n:Nat):(List.range n).all (fun _=>true)=true:=zT.mpr fun _ _=>rfl
theorem d5(hu:A.units+64 < cLine)(r:Ap c f R σ s.heap){xs ys:List Val}{a b:Value}{bb:Bool}(hx:VH c R s.heap (.seq false xs) a)(hy:VH c R s.heap (.seq false ys) b)(h:B5 xs ys=some bb):AV c f A R σ s (compareOp .Eq a b) (.bool bb):=by
 refine Av r fun m led r0=>?_
 refine AD (hx.seq r0) fun p vs n e1 g1 _ h1=>AD (hy.seq r0) fun q us k e2 g2 _ h2=>?_
 rw[e1,e2]
 have hu:A.units < cLine:=jm (zB _ _) hu
 refine AV.plain ⟨m,led,r0⟩ fun E Q hq=>?_
 rcases Iz h with⟨eb,hs⟩ |⟨eb,hl⟩
 ·refine Aw (LL (A':=A.in1) (s':=s) hs h1 h2) fun l k=>?_
  have t:=SeqAt.RcAt.lists (e:=fun _=>true) (Ai g1) (Ai g2) (by rw[zL,zL];exact l) hu fun j j1 j2=>k j _ _ (by rw[←z8,Array.getElem?_eq_getElem j1]) (by rw[←z8,Array.getElem?_eq_getElem j2])
  rw[range_all]at t
  refine PySem.EqBoolInt.of_rc t ?_
  rw[eb]at hq;exact hq _ s.toks (.bool _)
 ·refine PySem.EqBoolInt.of_rc (SeqAt.RcAt.lists_lengths (Ai g1) (Ai g2) (JR.mpr (by rw[zL,zL,h1.length,h2.length];exact hl)) hu) ?_
  rw[eb]at hq;exact hq _ s.toks (.bool _)
theorem ec(hu:A.units+64 < cLine)(r:Ap c f R σ s.heap){xs ys:List Val}{a b:Value}{bb:Bool}(hx:VH c R s.heap (.seq false xs) a)(hy:VH c R s.heap (.seq false ys) b)(h:B5 xs ys=some bb):AV c f A R σ s (compareOp .NotEq a b) (.bool !bb):=by
 refine Av r fun m led r0=>?_
 refine AD (hx.seq r0) fun p vs n e1 g1 _ h1=>AD (hy.seq r0) fun q us k e2 g2 _ h2=>?_
 rw[e1,e2]
 have hu:A.units < cLine:=jm (zB _ _) hu
 refine AV.plain ⟨m,led,r0⟩ fun E Q hq=>?_
 rcases Iz h with⟨eb,hs⟩ |⟨eb,hl⟩
 ·refine Aw (LL (A':=A.in1) (s':=s) hs h1 h2) fun l k=>?_
  have t:=SeqAt.RcNeAt.lists (e:=fun _=>true) (Ai g1) (Ai g2) (by rw[zL,zL];exact l) hu fun j j1 j2=>k j _ _ (by rw[←z8,Array.getElem?_eq_getElem j1]) (by rw[←z8,Array.getElem?_eq_getElem j2])
  rw[range_all]at t
  refine PySem.EqBoolInt.of_rcne t ?_
  rw[eb]at hq;exact hq _ s.toks (.bool _)
 ·refine PySem.EqBoolInt.of_rcne (SeqAt.RcNeAt.lists_lengths (Ai g1) (Ai g2) (JR.mpr (by rw[zL,zL,h1.length,h2.length];exact hl)) hu) ?_
  rw[eb]at hq;exact hq _ s.toks (.bool _)
end
end
section
theorem CC{a b:Nat}(h:Nat.blt a b=true):a < b:=zC h
theorem Cn{a b:Nat}(h:Nat.ble a b=true):a≤b:=zC h
section
variable {rx:Rx}{x y v:Val}
theorem Op{b:Bool}(h:fC x y=some b):(∃p q,x=.bool p∧y=.bool q∧b=cond p q (!q))∨(∃p q,x=.int p∧y=.int q∧b=FJ p q)∨(∃p q,x=.str p∧y=.str q∧b=Bo p q)∨(x=.none∧y=.none∧b=true)∨∃p q,x=.seq false p∧y=.seq false q∧B5 p q=some b:=by
 induction x using Val.casesOn with
 |bool p=>exact .inl (Aa (bB h) fun q e k=>⟨p,q,rfl,e,(ze k).symm⟩)
 |int p=>exact .inr (.inl (Aa (bI h) fun q e k=>⟨p,q,rfl,e,(ze k).symm⟩))
 |str p=>exact .inr (.inr (.inl (Aa (bS h) fun q e k=>⟨p,q,rfl,e,(ze k).symm⟩)))
 |none=>exact .inr (.inr (.inr (.inl ⟨rfl,(b0 h).1,(ze (b0 h).2).symm⟩)))
 |seq _ _=>exact .inr (.inr (.inr (.inr (Aa (bL h) fun p e h=>Aa (bL h) fun q e' h=>⟨p,q,e,e',h⟩))))
 |_=>exact nz h
theorem PX(h:WY x y=some v):(∃i j,x=.int i∧y=.int j∧v=.int (i+j))∨(∃t u,x=.str t∧y=.str u∧t.length+u.length≤AJ∧v=.str (t++u))∨∃t u,x=.seq false t∧y=.seq false u∧t.length+u.length≤AJ∧v=.seq false (t++u):=by
 induction x using Val.casesOn with
 |int i=>exact .inl (Aa (bI h) fun j e q=>⟨i,j,rfl,e,(ze q).symm⟩)
 |str t=>exact .inr (.inl (Aa (bS h) fun u e q=>⟨t,u,rfl,e,Cn (AO q).1,(AO q).2.symm⟩))
 |seq _ _=>exact .inr (.inr (Aa (bL h) fun t e h=>Aa (bL h) fun u e' q=>⟨t,u,e,e',Cn (AO q).1,(AO q).2.symm⟩))
 |_=>exact nz h
end
section
variable {c:Cx}{f:Fx}{A:Around}{R:Rec}{σ:St}{s:Shared}{rx:Rx}{h:Heap}{x y v:Val}{a b:Value}{F:Value→Value→Val→Prop}
theorem VH.Q9{i:Int}(y:VH c R h (.int i) a):∃t,a=.int i t:=(y.v rfl).inv
theorem VH.SR{x:Txt}(y:VH c R h (.str x) a):∃t,a=.str ⟨x.toArray⟩ t∧x.length≤AJ:=Aa (y.v rfl).inv fun t hl e=>⟨t,e,hl⟩
theorem VH.Nr{p:Bool}(y:VH c R h (.bool p) a):a=.bool p:=(y.v rfl).inv
theorem Mw{i j:Int}{r:Val}(hx:VH c R h x a)(hy:VH c R h y b)(ex:x=.int i)(ey:y=.int j)(ev:v=r)(k:∀t u,F (.int i t) (.int j u) r):F a b v:=by
 rw[ex]at hx;rw[ey]at hy;rw[ev]
 refine zg hx.Q9 fun t hq1=>?_;subst hq1
 refine zg hy.Q9 fun u hq1=>?_;subst hq1
 exact k t u
theorem X5{p q:Txt}{r:Val}(hx:VH c R h x a)(hy:VH c R h y b)(ex:x=.str p)(ey:y=.str q)(ev:v=r)(k:∀t u,F (.str ⟨p.toArray⟩ t) (.str ⟨q.toArray⟩ u) r):F a b v:=by
 rw[ex]at hx;rw[ey]at hy;rw[ev]
 refine Aa hx.SR fun t hq1 _=>?_;subst hq1
 refine Aa hy.SR fun u hq1 _=>?_;subst hq1
 exact k t u
theorem gV{p:Txt}{j:Int}{r:Val}(hx:VH c R h x a)(hy:VH c R h y b)(ex:x=.str p)(ey:y=.int j)(ev:v=r)(k:∀t u,F (.str ⟨p.toArray⟩ t) (.int j u) r):F a b v:=by
 rw[ex]at hx;rw[ey]at hy;rw[ev]
 refine Aa hx.SR fun t hq1 _=>?_;subst hq1
 refine zg hy.Q9 fun u hq1=>?_;subst hq1
 exact k t u
theorem d9(r:Ap c f R σ s.heap){p q:Bool}:AV c f A R σ s (compareOp .NotEq (.bool p) (.bool q)) (.bool !(cond p q (!q))):=by
 refine AV.plain r fun E Q hq=>ne_bool ?_
 rw[show(p !=q)= !(cond p q (!q))from by induction p using za <;>induction q using za <;>rfl]
 exact hq _ s.toks (.bool _)
theorem VH.Lw(y:VH c R h .none a):a=.none:=(y.v rfl).inv
theorem d7(hu:A.units+64 < cLine)(r:Ap c f R σ s.heap){bb:Bool}(hx:VH c R s.heap x a)(hy:VH c R s.heap y b)(h:fC x y=some bb):AV c f A R σ s (compareOp .Eq a b) (.bool bb):=
 (Op h).elim (fun h=>Aq h fun p q ex ey e=>by rw[ex]at hx;rw[ey]at hy;rw[hx.Nr,hy.Nr,e];exact d4 r) fun h=>
 h.elim (fun h=>Aq h fun p q ex ey e=>Mw (F:=fun a b v=>AV c f A R σ s (compareOp .Eq a b) v) hx hy ex ey (zy Val.bool e) fun _ _=>G5 r rfl) fun h=>
 h.elim (fun h=>Aq h fun p q ex ey e=>X5 (F:=fun a b v=>AV c f A R σ s (compareOp .Eq a b) v) hx hy ex ey (zy Val.bool e) fun _ _=>d6 r) fun h=>
 h.elim (fun h=>Bx h fun ex ey e=>by rw[ex]at hx;rw[ey]at hy;rw[hx.Lw,hy.Lw,e];exact AV.plain r fun E Q hq=>PySem.EqNone.eq_none_none (hq _ s.toks (.bool _))) fun h=>
 Aq h fun p q ex ey e=>by rw[ex]at hx;rw[ey]at hy;exact d5 hu r hx hy e
theorem em(hu:A.units+64 < cLine)(r:Ap c f R σ s.heap){bb:Bool}(hx:VH c R s.heap x a)(hy:VH c R s.heap y b)(h:fC x y=some bb):AV c f A R σ s (compareOp .NotEq a b) (.bool !bb):=
 (Op h).elim (fun h=>Aq h fun p q ex ey e=>by rw[ex]at hx;rw[ey]at hy;rw[hx.Nr,hy.Nr,e];exact d9 r) fun h=>
 h.elim (fun h=>Aq h fun p q ex ey e=>Mw (F:=fun a b v=>AV c f A R σ s (compareOp .NotEq a b) v) hx hy ex ey (zy (fun b=>Val.bool !b) e) fun _ _=>G5 r rfl) fun h=>
 h.elim (fun h=>Aq h fun p q ex ey e=>X5 (F:=fun a b v=>AV c f A R σ s (compareOp .NotEq a b) v) hx hy ex ey (zy (fun b=>Val.bool !b) e) fun _ _=>ee r) fun h=>
 h.elim (fun h=>Bx h fun ex ey e=>by rw[ex]at hx;rw[ey]at hy;rw[hx.Lw,hy.Lw,e];exact AV.plain r fun E Q hq=>PySem.EqNone.ne_none_none (hq _ s.toks (.bool _))) fun h=>
 Aq h fun p q ex ey e=>by rw[ex]at hx;rw[ey]at hy;exact ec hu r hx hy e
theorem WH(hu:A.units+64 < cLine)(r:Ap c f R σ s.heap){o:P2}{op:CmpOp}(ho:Gy o=some op)(hx:VH c R s.heap x a)(hy:VH c R s.heap y b)(h:Bu rx o x y=some v):
  AV c f A R σ s (compareOp op a b) v:=by
 have go:∀{op':CmpOp},some op'=some op→AV c f A R σ s (compareOp op' a b) v→AV c f A R σ s (compareOp op a b) v:=fun e k=>by rw[←ze e];exact k
 have gi:∀{op':CmpOp} {k:Int→Int→Bool},some op'=some op→FL (fun a b=>some (.bool (k a b))) x y=some v→(∀{i j t u},AV c f A R σ s (compareOp op' (.int i t) (.int j u)) (.bool (k i j)))→AV c f A R σ s (compareOp op a b) v:=fun{op' k} e h H=>
  Aq (fP h) fun i j ex ey q=>go e (Mw (F:=fun a b v=>AV c f A R σ s (compareOp op' a b) v) hx hy ex ey (ze q).symm fun _ _=>H)
 induction o using P2.casesOn with
 |eq=>exact Aa (Np h) fun bb h1 q=>go ho (by rw[←ze q];exact d7 hu r hx hy h1)
 |ne=>exact Aa (Np h) fun bb h1 q=>go ho (by rw[←ze q];exact em hu r hx hy h1)
 |lt=>exact gi ho h (G5 r rfl)
 |gt=>exact gi ho h (G5 r rfl)
 |ge=>exact gi ho h (G5 r rfl)
 |isin=>exact nz h
 |_=>exact nz ho
theorem d0(r:Ap c f R σ s.heap){o:P2}{op:Operator}(ho:HW o=some op)(hx:VH c R s.heap x a)(hy:VH c R s.heap y b)(h:Bu rx o x y=some v):
  AV c f A R σ s (binaryOp op a b) v:=by
 have go:∀{op':Operator},some op'=some op→AV c f A R σ s (binaryOp op' a b) v→AV c f A R σ s (binaryOp op a b) v:=fun e k=>by rw[←ze e];exact k
 induction o using P2.casesOn with
 |add=>
  refine go (op':=.Add) ho ((PX h).elim (fun h=>Aq h fun i j ex ey e=>?_) fun h=>h.elim (fun h=>PH h fun t u ex ey hl e=>?_) fun h=>PH h fun t u ex ey hl e=>?_)
  ·exact Mw (F:=fun a b v=>AV c f A R σ s (binaryOp .Add a b) v) hx hy ex ey e fun _ _=>Y2 r
  ·exact X5 (F:=fun a b v=>AV c f A R σ s (binaryOp .Add a b) v) hx hy ex ey e fun _ _=>Y4 r hl
  ·rw[ex]at hx;rw[ey]at hy;rw[e];exact Y3 r hx hy hl
 |sub=>exact Aq (fP h) fun i j ex ey q=>go ho (Mw (F:=fun a b v=>AV c f A R σ s (binaryOp .Sub a b) v) hx hy ex ey (ze q).symm fun _ _=>Zb r)
 |mul=>exact Aa (bS h) fun t ex h=>Aa (bN h) fun n ey q=>go (op':=.Mult) ho (gV (F:=fun a b v=>AV c f A R σ s (binaryOp .Mult a b) v) hx hy ex ey (AO q).2.symm fun _ _=>Y8 r (Cn (Ac (AO q).1).1) (Cn (Ac (AO q).1).2))
 |fdiv=>exact Aq (fP h) fun i j ex ey h=>Aa (Np h) fun n ej q=>go ho (Mw (F:=fun a b v=>AV c f A R σ s (binaryOp .FloorDiv a b) v) hx hy ex (ey.trans (zy Val.int (R9 ej))) (AO q).2.symm fun _ _=>Y5 r (AO q).1)
 |mod=>exact Aq (fP h) fun i j ex ey h=>Aa (Np h) fun n ej q=>go ho (Mw (F:=fun a b v=>AV c f A R σ s (binaryOp .Mod a b) v) hx hy ex (ey.trans (zy Val.int (R9 ej))) (ze q).symm fun _ _=>Y7 r)
 |_=>exact nz ho
end
end
section
section
variable {c:Cx}{C:Cfg}{S:Sx}{d:Nat}{f:Fx}{A:Around}{X:AN→St→Prop}{R R':Rec}{σ σ':St}{s s':Shared}{E:Value→Shared→Prop}{m:Str→Option Value}{led:List (Addr×Obj)}{rx:Rx}{K:LV→St→Prop}
noncomputable def AE(c:Cx)(C:Cfg)(d:Nat)(S:Sx)(e:Ag.E)(x:PySem.Expr):Prop:=
 ∀(f:Fx) (A:Around) (X:AN→St→Prop) (R:Rec) (σ:St) (s:Shared) (K:LV→St→Prop),At c S d f A X R σ s→B2 C X e K σ→Tk c f A X R σ s x K
noncomputable def Ej(c:Cx)(C:Cfg)(d:Nat)(S:Sx)(e:Ag.E)(x:PySem.Expr):Prop:=
 ∀(f:Fx) (A:Around) (X:AN→St→Prop) (R:Rec) (σ:St) (s:Shared) (K:Bool→St→Prop),At c S d f A X R σ s→Kz C X e K σ→au c f A X R σ s x K
noncomputable def V8(c:Cx)(C:Cfg)(d:Nat)(S:Sx)(es:Es)(xs:List PySem.Expr):Prop:=
 ∀(f:Fx) (A:Around) (X:AN→St→Prop) (R:Rec) (σ:St) (s:Shared) (pos:Pos) (K:List Val→St→Prop),xs.all Ah=true→At c S d f A X R σ s→Kw C X es K σ→Ho c f A X R σ s pos xs K
noncomputable def aq(c:Cx)(C:Cfg)(d:Nat)(S:Sx)(e:Ag.E)(x:Option PySem.Expr):Prop:=
 ∀(f:Fx) (A:Around) (X:AN→St→Prop) (R:Rec) (σ:St) (s:Shared) (K:LV→St→Prop),At c S d f A X R σ s→B2 C X e K σ→∀(E Q:Value→Shared→Prop),HT c f A R s X E→
  (∀l σ' R' rv s',R.le R'→An s s'→K l σ'→Ap c f R' σ' s'.heap→LR c R' l rv→Q rv s')→wpAny (model c.prog c.w) A (evalPart x f.env) Q E s
theorem AE.go{e:Ag.E}{x:PySem.Expr}(i:AE c C d S e x)(a:At c S d f A X R σ s)(h:B2 C X e K σ):Tk c f A X R σ s x K:=i _ _ _ _ _ _ _ a h
theorem Ej.go{e:Ag.E}{x:PySem.Expr}{K:Bool→St→Prop}(i:Ej c C d S e x)(a:At c S d f A X R σ s)(h:Kz C X e K σ):au c f A X R σ s x K:=i _ _ _ _ _ _ _ a h
theorem V8.go{es:Es}{xs:List PySem.Expr}{pos:Pos}{K:List Val→St→Prop}(i:V8 c C d S es xs)(hp:xs.all Ah=true)(a:At c S d f A X R σ s)(h:Kw C X es K σ):Ho c f A X R σ s pos xs K:=i _ _ _ _ _ _ _ _ hp a h
theorem aq.go{e:Ag.E}{x:Option PySem.Expr}(i:aq c C d S e x)(a:At c S d f A X R σ s)(h:B2 C X e K σ)(E Q:Value→Shared→Prop)(xo:HT c f A R s X E)
  (hq:∀l σ' R' rv s',R.le R'→An s s'→K l σ'→Ap c f R' σ' s'.heap→LR c R' l rv→Q rv s'):wpAny (model c.prog c.w) A (evalPart x f.env) Q E s:=i _ _ _ _ _ _ _ a h E Q xo hq
theorem done(a:At c S d f A X R σ s){l:LV}{rv:Value}{Q:Value→Shared→Prop}{s':Shared}(hk:K l σ)(hl:LR c R l rv)(sm:An s s')(hh:s'.heap=s.heap)
  (hq:∀l σ' R' rv s',R.le R'→An s s'→K l σ'→Ap c f R' σ' s'.heap→LR c R' l rv→Q rv s'):Q rv s':=
 hq l σ R rv s' (.refl R) sm hk (by rw[hh];exact a.r) hl
theorem D9{K:Bool→St→Prop}{l:LV}{rv:Value}(a:At c S d f A X R σ s)(hl:LR c R l rv)(h:Eg K l σ){Q:Bool→Shared→Prop}(hq:∀b s',An s s'→Ap c f R σ s'.heap→K b σ→Q b s'):
  wpAny (model c.prog c.w) A (truthy rv) Q E s:=by
 refine Aa (Ad h) fun x hx h=>?_
 refine Aa (Ad h) fun b hb h=>?_
 refine Av a.r fun m led r=>?_
 exact Pz ⟨m,led,r⟩ (Bi r hx hl) hb fun s' sm r'=>hq b s' sm r' h
theorem one{a:Ag.E}{x:PySem.Expr}{sem:Val→Option Val}(ia:AE c C d S a x)(at_:At c S d f A X R σ s)(h:B2 C X a (GN fun x σ=>MM K (sem x) σ) σ)(xo:HT c f A R s X E){P:Value→Shared→Prop}
  (hP:∀ra R₁ σ₁ s₁ xv v,R.le R₁→An s s₁→At c S d f A X R₁ σ₁ s₁→VH c R₁ s₁.heap xv ra→sem xv=some v→K (.v v) σ₁→P ra s₁):wpAny (model c.prog c.w) A (eval x f.env) P E s:=by
 refine ia.go at_ h E _ xo fun l σ₁ R₁ rv s₁ le sm hk r hl=>?_
 refine Aa (Ad hk) fun xv hx hk=>?_
 refine Aa (Ad hk) fun v hv hk=>?_
 refine Av r fun m led r0=>?_
 exact hP rv R₁ σ₁ s₁ xv v le sm (at_.up le sm ⟨m,led,r0⟩) (Bi r0 hx hl) hv hk
theorem two{a b:Ag.E}{x y:PySem.Expr}{sem:Val→Val→Option Val}(ia:AE c C d S a x)(ib:AE c C d S b y)(at_:At c S d f A X R σ s)
  (h:B2 C X a (fun la σ=>B2 C X b (fun lb σ=>BP (Cf σ la) fun x=>BP (Cf σ lb) fun y=>MM K (sem x y) σ) σ) σ) (xo:HT c f A R s X E) {P:Value→Value→Shared→Prop}
  (hP:∀ra rb R₂ σ₂ s₂ xv yv v,R.le R₂→An s s₂→At c S d f A X R₂ σ₂ s₂→VH c R₂ s₂.heap xv ra→VH c R₂ s₂.heap yv rb→sem xv yv=some v→K (.v v) σ₂→P ra rb s₂):
  wpAny (model c.prog c.w) A (eval x f.env) (fun ra s₁=>wpAny (model c.prog c.w) A (eval y f.env) (fun rb s₂=>P ra rb s₂) E s₁) E s:=by
 refine ia.go at_ h E _ xo fun la σ₁ R₁ ra s₁ le sm hk r hla=>?_
 refine ib.go (at_.up le sm r) hk E _ (xo.up le sm) fun lb σ₂ R₂ rb s₂ le₂ sm₂ hk r₂ hlb=>?_
 refine Aa (Ad hk) fun xv hx hk=>?_
 refine Aa (Ad hk) fun yv hy hk=>?_
 refine Aa (Ad hk) fun v hv hk=>?_
 refine Av r₂ fun m led r0=>?_
 exact hP ra rb R₂ σ₂ s₂ xv yv v (le.trans le₂) (sm.trans sm₂) ((at_.up le sm r).up le₂ sm₂ ⟨m,led,r0⟩) (Bi r0 hx (hla.up le₂)) (Bi r0 hy hlb) hv hk
theorem Da{x:PySem.Expr}(h:Ah x=true):[x].all Ah=true:=by simp[h]
theorem Ip{x y:PySem.Expr}(h:Ah x=true)(h':Ah y=true):[x,y].all Ah=true:=by simp[h,h']
theorem FP{x y z:PySem.Expr}(h:Ah x=true)(h':Ah y=true)(h'':Ah z=true):[x,y,z].all Ah=true:=by simp[h,h',h'']
theorem Am{K:Val→St→Prop}{l:LV}(h:Bp K l σ):∃x,val? l=some x∧K x σ:=Ad h
theorem ii{R:Rec}{s:Shared}{m:Str→Option Value}{led:List (Addr×Obj)}{sd:Option (Addr×Addr)}{Rp:PySem.Result→Shared→Prop}:Me c f A R s m led sd (fun _ _ _=>False) Rp:=fun _ _ _ _ _ _ _ _ _ _ _ _ _ h=>h.elim
theorem QF(hm:S.Af=false){k:Nat}(hmth:c.mth k=false)(HC:AM c C d c.mth)(a:At c S d f A X R σ s){vs:List Val}{rvs:List Value}(hvs:c.Vs R vs rvs)
  (h:C.call k [] vs σ.heap (fun r _ h=>K (.v r) (σ.BA h)) (fun x _ h=>X x (σ.BA h))) {ad:Addr} (had:c.fad[k]? =some ad) (xo:HT c f A R s X E) {Q:Value→Shared→Prop}
  (hq:∀l σ' R' rv s',R.le R'→An s s'→K l σ'→Ap c f R' σ' s'.heap→LR c R' l rv→Q rv s'):wpAny (model c.prog c.w) A (call (.ref ad) rvs) Q E s:=by
 refine Av a.r fun m led r=>?_
 have hsd:R.sd=none:=by
  have:=a.Af
  rw[hm]at this
  induction q:R.sd using zh with
  |none=>rfl
  |some _=>rw[q]at this;cases this
 have fin:∀{f':Fx} {R':Rec} {σ':St} {m':Str→Option Value} {led':List (Addr×Obj)},(R.call led none).Lm R'→RelL c f' R' σ' m' led'→RelL c f (BV R R' led') (σ.BA σ'.heap) m led'∧R.le (BV R R' led'):=fun{f' R' σ' m' led'} le r₁=>
  r.toRelL.leave (sd:=none) (fsl:=σ.self) (hp:=σ'.heap) le r₁ (fun _ _ h=>nomatch h) (fun h=>absurd hsd h) (fun x dx es n e=>by rw[hsd]at e;cases e) (fun _=>r.self0 hsd) rfl (fun j ce hj _=>.inl hj)
 refine Jg (HC k [] vs σ.heap _ _ ad had h f A A R σ s m led none rvs ⟨a.G,.refl A,r,hvs,by rw[hmth];rfl,(fun _ _ h=>nomatch h),fun _=>rfl,
  fun j fs' hj _=>⟨hj,fun _ _ h=>nomatch h⟩,rfl,fun _ _ h=>nomatch h⟩ _ (fun r' fs' h' rv s' f' R' σ' m' led' lv hk sm le r₁ hlook hlr hfz hheap F N=>?_)
  fun e T B a0 outer fs' h' s' f' R' σ' m' led' hx sm le r₁ hfz hheap hT hA fl hB hl hn up _=>?_)
 ·subst hheap
  refine Aw (fin le.x r₁.toRelL) fun rn len=>?_
  exact hq (.v r') _ _ rv s' len sm hk ⟨m,led',rn.at_ F N⟩ (.v (Fq r₁.toRelL hlook hlr))
 ·subst hheap
  refine Aw (fin le r₁) fun rn len=>?_
  exact xo (.user e) (σ.BA σ'.heap) _ (.ref e) s' len.x sm hx ⟨e,T,B,a0,m,led',outer,rfl,rfl,hT,hA,.of fl,hB,hl,hn,up,rn⟩
theorem G9:∀{fs:List (Option LV)} {l:List (Option Val)},Kp fs=some l→B1 l=fs
 |[],l,h=>by cases h;rfl
 |none::r,l,h=>by
  simp only[Kp]at h
  induction q:Kp r using zh with
  |none=>rw[q]at h;cases h
  |some l'=>
   rw[q]at h;cases h
   show none::B1 l'=none::r
   rw[G9 q]
 |some (.v x)::r,l,h=>by
  simp only[Kp]at h
  induction q:Kp r using zh with
  |none=>rw[q]at h;cases h
  |some l'=>
   rw[q]at h;cases h
   show some (.v x)::B1 l'=some (.v x)::r
   rw[G9 q]
 |some (.loc _)::r,l,h=>by cases h
 |some (.app _)::r,l,h=>by cases h
 |some (.cb _ _)::r,l,h=>by cases h
theorem QK{k:Nat}(hmth:c.mth k=true)(HC:AM c C d c.mth)(a:At c S d f A X R σ s){x dx:Addr}(hsd:R.sd=some (x,dx)){vs:List Val}{rvs:List Value}(hvs:c.Vs R vs rvs)
  (h:BP (Kp σ.self) fun fs=>C.call k fs vs σ.heap (fun r fs' h=>K (.v r) ⟨σ.loc,σ.own,B1 fs',h⟩) (fun _ _ _=>False)) {ad:Addr} (had:c.fad[k]? =some ad) {Q:Value→Shared→Prop}
  (hq:∀l σ' R' rv s',R.le R'→An s s'→K l σ'→Ap c f R' σ' s'.heap→LR c R' l rv→Q rv s'):wpAny (model c.prog c.w) A (call (.ref ad) (.ref x::rvs)) Q E s:=by
 refine Av a.r fun m led r=>?_
 refine Aa (Ad h) fun fs HD h=>?_
 refine Bx (r.self x dx hsd) fun _ z h0=>AH h0 fun es n z1 z2=>?_
 refine Jg (HC k fs vs σ.heap _ _ ad had h f A A R σ s m led (some (x,dx)) rvs ⟨a.G,.refl A,r,hvs,by rw[hmth];rfl,
  fun x' dx' e=>by
   cases e
   refine⟨z,es,n,z1,?_⟩
   rw[←G9 HD]at z2
   exact Ar.B1 (R:=R) (R':=R.call led (some (x,dx))) (fun _ _ y=>y) z2,(fun h=>nomatch h),
  fun j fs' hj ho=>⟨hj,fun x' dx' e=>by cases e;exact(r.D2 x dx hsd).2.2 j fs' hj ho⟩,rfl,fun x' dx' e=>by cases e;exact .inl hsd⟩ _ (fun r' fs' h' rv s' f' R' σ' m' led' lv hk sm le r₁ hlook hlr hfz hheap F N=>?_) ii)
 subst hheap
 refine Aw (r.toRelL.leave (sd:=some (x,dx)) (fsl:=B1 fs') (hp:=σ'.heap) le.x r₁.toRelL (fun x' dx' e=>by cases e;exact .inl hsd) (fun _=>hsd.symm) (fun x' dx' es n _ _ hF=>CO r₁.toRelL hfz hF) (fun e=>by rw[hsd]at e;cases e) rfl (fun j ce hj _=>.inl hj)) fun rn len=>?_
 exact hq (.v r') _ _ rv s' len sm hk ⟨m,led',rn.at_ F N⟩ (.v (Fq r₁.toRelL hlook hlr))
theorem Wu{A₀ A:Around}{f:Fx}{R:Rec}{σ:St}{s:Shared}{m:Str→Option Value}{led:List (Addr×Obj)}(G:L8 c f A₀ d)(nr:Ov A₀ A)(r:Rel c f R σ s.heap m led){j:Nat}{fs:List (Option Val)}(hj:σ.heap[j]? =some (Ag.Cell.Ao fs)){x dx:Addr}(z:c.Z R x (instObj c.PC dx))(hd:R.ρ[j]? =some dx)
  {es:List DictEntry} {n:Nat} (z1:(dx,dictOf es n)∈led) (z2:Ar c R (B1 fs) es) {vs:List Val} {rvs:List Value} (hvs:c.Vs R vs rvs) {mt:Bool} (hmth:mt=true):Os c d f A₀ A R σ s m led (some (x,dx)) vs rvs fs (σ.heap.set j .taken) mt:=
 ⟨G,nr,r,hvs,by rw[hmth];rfl,fun x' dx' e=>by cases e;exact⟨z,es,n,z1,Ar.B1 (R:=R) (R':=R.call led (some (x,dx))) (fun _ _ y=>y) z2⟩,(fun h=>nomatch h),
  fun i fs' hi ho=>by
   by_cases e:j=i
   ·subst e
    rw[jv (zn.mp hj).1]at hi
    exact absurd (ze hi).symm ho
   ·rw[jQ e]at hi
    exact⟨hi,fun x' dx' e' hi'=>by cases e';exact e (DX (Gq r.D1) hd hi')⟩,jK ..,fun x' dx' e=>by cases e;exact .inr (Az hd)⟩
set_option tactic.hygienic true in
theorem QH(hm:S.Af=false){k:Nat}(hmth:c.mth k=true)(HC:AM c C d c.mth)(a:At c S d f A X R σ s){j:Nat}{x:Addr}{fs:List (Option Val)}(hj:σ.heap[j]? =some (Ag.Cell.Ao fs))(ho:c.V R (.obj j) (.ref x)){vs:List Val}{rvs:List Value}(hvs:c.Vs R vs rvs)
  (h:C.call k fs vs (σ.heap.set j .taken) (fun r fs' h=>K (.v r) (σ.BA (h.set j (.Ao fs')))) (fun _ _ _=>False)) {ad:Addr} (had:c.fad[k]? =some ad) {Q:Value→Shared→Prop}
  (hq:∀l σ' R' rv s',R.le R'→An s s'→K l σ'→Ap c f R' σ' s'.heap→LR c R' l rv→Q rv s'):wpAny (model c.prog c.w) A (call (.ref ad) (.ref x::rvs)) Q E s:=by
 refine Av a.r fun m led r=>?_
 have hsd:R.sd=none:=by
  have:=a.Af
  rw[hm]at this
  induction q:R.sd using zh with
  |none=>rfl
  |some _=>rw[q]at this;cases this
 cases ho with
 |obj z hd=>
  rename_i dx
  refine Hn (r.Ao hj) fun dx' es n z0 z1 z2=>?_
  rw[hd]at z0;cases z0
  have hρ:=Gq r.D1
  refine Jg (HC k fs vs (σ.heap.set j .taken) _ _ ad had h f A A R σ s m led (some (x,dx)) rvs (Wu (A:=A) a.G (.refl A) r hj z hd z1 z2 hvs hmth) _ (fun r' fs' h' rv s' f' R' σ' m' led' lv hk sm le r₁ hlook hlr hfz hheap F N=>?_) ii)
  subst hheap
  have hsd':R'.sd=some (x,dx):=le.sd
  refine Bx (r₁.self x dx hsd') fun _ _ h0=>AH h0 fun es' n' y1 y2=>?_
  obtain⟨rn,len⟩:=r.toRelL.leave (sd:=some (x,dx)) (fsl:=σ.self) (hp:=σ'.heap.set j (.Ao fs')) le.x r₁.toRelL (fun x' dx' e=>by cases e;exact .inr ⟨hsd,Az hd⟩) (fun h=>absurd hsd h) (fun x dx es n e=>by rw[hsd]at e;cases e) (fun _=>r.self0 hsd) (jK ..)
   (fun i ce hi ho=>by
    by_cases e:j=i
    ·subst e
     have hlt:j < σ'.heap.length:=by
      have:=(zn.mp hi).1
      rwa[jK]at this
     rw[jv hlt]at hi
     cases hi
     refine .inr ⟨dx,_,?_,y1,⟨es',n',rfl,CO r₁.toRelL hfz y2⟩,hsd⟩
     refine zg le.ρ fun t ht=>?_
     rw[ht]
     show(R.ρ++t)[j]? =some dx
     rw[zJ (zn.mp hd).1];exact hd
    ·rw[jQ e]at hi
     exact .inl hi)
  exact hq (.v r') _ _ rv s' len sm hk ⟨m,led',rn.at_ F N⟩ (.v (Fq r₁.toRelL hlook hlr))
end
end
end Ag
end
namespace Ag
section
open PySem PySem.W PySem.Calls PyProof.Rows Builtin Builtin.ObjectAttr
noncomputable abbrev No(id:String)(self:Value):Obj:={cls:=.type "builtin_function_or_method",data:=.fields #[.builtin id,self]}
section
variable {prog:Program}{w:World}{A:Around}{s:Shared}{Q:Value→Shared→Prop}{Ev:Value→Shared→Prop}
theorem Gw{q:Addr}{id:String}{self:Value}{vs:List Value}{b:Builtin}(ho:s.heap.get? q=some (No id self))(hp:plainId id=true)(hb:entryFor table id=some b)
  (h:wpAny (model prog w) A.in1 (checkBoundCall id ⟨self::vs,[]⟩) (fun _ s₁=>wpAny (model prog w) A.in1 (b ⟨self::vs,[]⟩) (fun fin s'=>∃v,fin=.done (.ret v)∧Q v s') Ev s₁) Ev s):wpAny (model prog w) A (call (.ref q) vs) Q Ev s:=by
 refine Jg (codeAny_of_tree ?_)
 show wpAny _ A.in1 (load q >>=_) _ _ s
 refine zj (wpAny_load ho ?_)
 show wpAny _ A.in1 (do checkBoundCall id ⟨self::vs,[]⟩;again (.builtin id ⟨self::vs,[]⟩)) _ _ s
 refine zj (zW h (fun _ s₁ h₁=>zF (And.intro (plainId_quiet hp _) (codeAny_builtin hb ?_))) fun _ _ h'=>h')
 rw[Around.under_plainId hp]
 exact zW h₁ (fun fin s' hf=>by refine Aa hf ?_;clear hf;intro v hq1 hv;subst hq1;exact hv) fun _ _ x=>x
theorem callWith_bound{M:Model}{env:Env}{pos:Pos}{q:Addr}{id:String}{self:Value}{x:PySem.Expr}{xs:List PySem.Expr}(hall:(x::xs).all Ah=true)
  (h:wpAny M A (spliced (backTo pos (starEach (x::xs) env))) (fun vs s₁=>s₁.heap.get? q=some (No id self)∧wpAny M A (call (.ref q) vs) Q Ev s₁) Ev s):wpAny M A (callWith pos (.ref q) [] (backTo pos (starEach (x::xs) env)) []) Q Ev s:=by
 have hp:=hall
 rw[jP,jN]at hp
 rw[Ab hp.1]at h ⊢
 refine callWith_of (P:=fun h=>h.get? q=some (No id self)) (by show((false || (backTo pos (starEach xs env)).any (·.1)) || false)=false;rw[AR hp.2];rfl) (fun h hq=>⟨.machine,.inr (.inl rfl),(Looks.ld (part:=none) hq).andThen .now⟩) (evalArgs_plain h)
end
noncomputable def BQ(id full:String)(args:Args):Prop:=(match Manifest.signature? id with
 |some sig=>Bind.checkArgs id {sig with full:=full} args
 |none=>unsupported "")=pure ()
theorem IX(a b:Value):BQ "list.append" "list.append" ⟨[a,b],[]⟩:=by
 unfold BQ;rw[JU (id:="list.append") (n:=['d','n','e','p','p','a']) (o:=['t','s','i','l']) (by kernel_rfl) PySem.F.owner_list];kernel_rfl
theorem Lh:builtinKind "list.append"=some .method:=by decide+kernel
section
variable {prog:Program}{w:World}{A:Around}{s:Shared}{Q:Unit→Shared→Prop}{Ev:Value→Shared→Prop}
set_option tactic.hygienic true in
theorem FI{id T full:String}{self:Value}{a:Addr}{vs:List Value}{o:Obj}(hs:self=.ref a)(hT:s.heap.get? a=some o)(hc:o.cls=.type T)(hcl:∀cd,o.data≠ .cls cd)(hk:builtinKind id=some .method)(hok:BQ id full ⟨self::vs,[]⟩)
  (hm:isSubtype (.type T) (.type "module")=pure false) (hv:Manifest.varargsMethods.contains id=false) (hf:s!"{Bind.lastOf T}.{Bind.lastOf id}"=full) (h:Q () s):wpAny (model prog w) A (checkBoundCall id ⟨self::vs,[]⟩) Q Ev s:=by
 subst hs
 unfold BQ at hok
 unfold checkBoundCall
 have ty:s.TypeIs (.ref a) T:=⟨o,hT,hc⟩
 induction hsig:Manifest.signature? id using zh with
 |none=>
  rw[hsig]at hok
  cases hok
 |some sig=>
  rw[hsig]at hok
  rw[hk]
  dsimp only
  rw[zR (show¬(Manifest.AttrKind.method !=.method && Manifest.AttrKind.method !=.classMethod)=true by decide)]
  refine zj (wpAny_isInstance ty hm ?_)
  rw[hv,Bool.or_self,zR jp]
  have hty:∀{Q':Bool→Shared→Prop},Q' false s→wpAny (model prog w) A (isType (.ref a)) Q' Ev s:=by
   intro Q' hq
   unfold isType loadHead
   refine zj (wpAny_loadPart hT ?_)
   refine zF ?_
   split
   ·rename_i cd e;exact absurd e (hcl cd)
   ·exact hq
  refine zj (hty ?_)
  rw[zR jp]
  refine zj (wpAny_typeOf ty ?_)
  show wpAny _ _ (Bind.checkArgs id {sig with full:=s!"{Bind.lastOf T}.{Bind.lastOf id}"} ⟨.ref a::vs,[]⟩) _ _ _
  rw[hf]
  exact jT hok h
end
section
variable {c:Cx}{C:Cfg}{S:Sx}{d:Nat}{f:Fx}{A:Around}{X:AN→St→Prop}{R R':Rec}{σ σ':St}{s s':Shared}{m:Str→Option Value}{led:List (Addr×Obj)}
theorem RG{h h':Heap}{led:List (Addr×Obj)}{a:Addr}{o o':Obj}(N:News f.h₀ f.L h led)(hm:(a,o)∈led)(hs:Heap.SameBut a h h')(ho:h'.get? a=some o'):News f.h₀ f.L h' (put a o' led):=by
 intro p hp
 refine Aa (zA.mp hp) fun q hq e=>?_
 have Nq:=N q hq
 have Na:=N _ hm
 by_cases hqa:q.1=a
 ·rw[z5 hqa]at e;subst e
  exact⟨ho,Na.2.1,Na.2.2⟩
 ·rw[zR hqa]at e;subst e
  exact⟨(hs.2 _ hqa).trans Nq.1,Nq.2.1,Nq.2.2⟩
theorem Mo(a:At c S d f A X R σ s){k:Nat}{ad q:Addr}{v:Val}{rv:Value}{xs:List Val}(hω:R.ω[k]? =some ad)(hz:c.Z R q (E5 ad))(hv:c.V R v rv)(hx:Fk σ.own k=some xs){P:Prop}
  (h:Be (Nat.blt xs.length AJ) P False) {Ev Q:Value→Shared→Prop} (hq:∀s',An s s'→∀R',Ap c f R' (σ.SD k (xs++[v])) s'.heap→R.le R'→P→Q .none s'):
  wpAny (model c.prog c.w) A (call (.ref q) [rv]) Q Ev s:=by
 refine Av a.r fun m led r=>?_
 refine AD (r.owns k xs hx) fun ad' vs n o1 o2 o3 o4=>?_
 rw[hω]at o1;cases o1
 have hlt:xs.length < AJ:=by
  induction q:Nat.blt xs.length AJ using za with
  |false=>rw[q]at h;exact h.elim
  |true=>rwa[UB,decide_eq_true_eq]at q
 have hP:P:=by
  rw[UB,ja hlt]at h;exact h
 have ho:=r.BE o2
 refine Gw (id:="list.append") (self:=.ref ad) (r.get hz) slot_list_append.plain entry_list_append (FI (T:="list") rfl ho rfl (fun _ h=>nomatch h) Lh (IX _ _) (by rw[zN];kernel_rfl) (by decide+kernel) (by decide+kernel) ?_)
 show wpAny _ _ (updateSeq ad (·.push rv) >>=fun _=>ret .none) _ _ s
 have hvl:=o4.length
 have hsz:vs.toArray.size≤sizeLine:=by rw[zL,hvl,←A6];exact o3
 refine zj (wpAny_updateSeq ho rfl (zF ⟨.none,rfl,?_⟩) hsz (by rw[Array.size_push];lia))
 have e:(vs.toArray.push rv)=(vs++[rv]).toArray:=by simp
 have hg:(s.heap.update ad (fun o=>o.mapSeq (·.push rv))).get? ad=some (seqObj false (vs++[rv]) (n+1)):=by
  rw[Heap.get?_update_self _ ho rfl]
  show some (seqObj false vs n |>.mapSeq (·.push rv))=_
  simp[Obj.mapSeq,seqObj]
 have hm:=r.N _ o2
 have hs:Heap.SameBut ad s.heap (s.heap.update ad (fun o=>o.mapSeq (·.push rv))):=Heap.SameBut.update ..
 have N':=RG r.N o2 hs hg
 exact hq _ AK R ⟨m,_,r.RT hω (r.F.change hs hm.2.1 hm.2.2) N' (AU.append o4 (.cons hv .nil)) (by rw[zd,List.length_singleton];lia)⟩ (.refl R) hP
end
theorem Rv:typeLookup (.type "method_descriptor") "__get__"=pure (some (.builtin "method_descriptor.__get__")):=by rw[jW,jt];kernel_rfl
theorem Ys:typeLookup (.type "method_descriptor") "__set__"=pure none:=by rw[jW,jt];kernel_rfl
theorem Yr:typeLookup (.type "method_descriptor") "__delete__"=pure none:=by rw[jW,jt];kernel_rfl
theorem I2:entryFor table "method_descriptor.__get__"=some Builtin.«method_descriptor.__get__»:=JD (by kernel_rfl)
theorem KJ(a b c:Value):argsOk "method_descriptor.__get__" ⟨[a,b,c],[]⟩:=by unfold argsOk;kernel_rfl
theorem FV:Slot "method_descriptor" "__get__" "method_descriptor.__get__":=
 .of (owner:="method_descriptor") (n:="__get__") Rv (by decide+kernel) (by decide+kernel) (by decide+kernel)
  (by first |exact .inl (by decide+kernel) |exact .inr (by decide+kernel)) (by rw[zN];kernel_rfl)
theorem II:typeOf (.builtin "list.append")=pure (.type "method_descriptor"):=PySem.F.type_list_append
section
variable {prog:Program}{w:World}{A:Around}
theorem J5{a:Addr}{vs:Array Value}{n:Nat}{s:Shared}{Q:Value→Shared→Prop}{Ev:Value→Shared→Prop}(hx:s.heap.get? a=some {cls:=.type "list",data:=.seq vs n})
  (h:Q (.ref s.heap.objs.size) {s with heap:=s.heap.push {cls:=.type "builtin_function_or_method",data:=.fields #[.builtin "list.append",.ref a]}}):
  wpAny (model prog w) A (Builtin.«method_descriptor.__get__» ⟨[.builtin "list.append",.ref a,.type "list"],[]⟩) (fun fin s'=>∃v,fin=.done (.ret v)∧Q v s') Ev s:=by
 obtain⟨hp,g,d,tk,os⟩:=s
 have hT:(⟨hp,g,d,tk,os⟩:Shared).TypeIs (.ref a) "list":=⟨_,hx,rfl⟩
 unfold Builtin.«method_descriptor.__get__»
 repeat (any_goals (first |assumption |wp_step))
 have e1:(".".intercalate ("list.append".cutAt '.').dropLast)="list":=by decide+kernel
 have e2:isSubtype (.type "list") (.type "list")=pure true:=by rw[zN];kernel_rfl
 rw[e1]
 refine jT e2 ?_
 simp only[Bool.not_true,jB,if_false]
 refine zF ?_
 unfold newFields
 repeat (any_goals (first |assumption |wp_step))
 exact⟨_,rfl,h⟩
theorem KQ{a:Addr}{vs:Array Value}{n:Nat}{s:Shared}{R:PySem.Result→Shared→Prop}(hx:s.heap.get? a=some {cls:=.type "list",data:=.seq vs n})
  (h:R (.ok (.ret (.ref s.heap.objs.size))) {s with heap:=s.heap.push {cls:=.type "builtin_function_or_method",data:=.fields #[.builtin "list.append",.ref a]}}):
  codeAny (model prog w) A (.call (.builtin "method_descriptor.__get__") ⟨[.builtin "list.append",.ref a,.type "list"],[]⟩) R s:=by
 refine codeAny_call_builtin FV.plain I2 (FV.check _ _ _ _ _ _ _ _ (by show typeOf _=_;exact II) (KJ _ _ _) (zW (J5 (Q:=fun v s'=>R (.ok (.ret v)) s') hx h) (fun fin s' hf=>?_) fun _ _ x=>x))
 refine Aa hf ?_;clear hf;intro v hq1 hv;subst hq1
 exact hv
theorem F8{a:Addr}{vs:Array Value}{n:Nat}{u:Tok}{s:Shared}{Q:Value→Shared→Prop}{Ev:Value→Shared→Prop}(hx:s.heap.get? a=some {cls:=.type "list",data:=.seq vs n})
  (h:Q (.ref s.heap.objs.size) {s with heap:=s.heap.push {cls:=.type "builtin_function_or_method",data:=.fields #[.builtin "list.append",.ref a]}}):
  wpAny (model prog w) A (Builtin.«object.__getattribute__» ⟨[.ref a,.str "append" u],[]⟩) (fun fin s'=>∃v,fin=.done (.ret v)∧Q v s') Ev s:=by
 obtain⟨hp,g,d,tk,os⟩:=s
 have hT:(⟨hp,g,d,tk,os⟩:Shared).TypeIs (.ref a) "list":=⟨_,hx,rfl⟩
 have f1:=slot_list_append.lookup
 have f2:=Rv
 have f3:=Ys
 have f4:=Yr
 have f5:=II
 unfold Builtin.«object.__getattribute__»
 repeat (any_goals (first |assumption |wp_step))
 refine KQ hx ?_
 exact zF ⟨_,rfl,h⟩
theorem GD{a:Addr}{vs:Array Value}{n:Nat}{s:Shared}{Q:Value→Shared→Prop}{Ev:Value→Shared→Prop}(hx:s.heap.get? a=some {cls:=.type "list",data:=.seq vs n})
  (h:Q (.ref s.heap.objs.size) {s with heap:=s.heap.push {cls:=.type "builtin_function_or_method",data:=.fields #[.builtin "list.append",.ref a]},toks:=s.toks+1}):
  wpAny (model prog w) A (getAttr (.ref a) "append" true) Q Ev s:=by
 obtain⟨hp,g,d,tk,os⟩:=s
 have hT:∀tk',(⟨hp,g,d,tk',os⟩:Shared).TypeIs (.ref a) "list":=fun _=>⟨_,hx,rfl⟩
 have f3:=PySem.F.slot_list_getattribute.lookup
 have f4:=PySem.F.slot_list_getattribute.bind (.ref a)
 unfold getAttr getAttrBy
 repeat (any_goals (first |assumption |exact hT _ |((with_reducible show wpAny _ _ (call (Value.builtin "list.__getattribute__") _ _) _ _ _);refine wpAny_call_entry PySem.F.slot_list_getattribute (hT _) am_entry_list_getattribute (F8 hx ?_) (PySem.F.args_list_getattribute_2 _ _)) |wp_step))
end
theorem Uu(c:Cx):Tn c:=by
 intro S d f A X R σ s k a at_ hω Ev Q hq
 refine Av at_.r fun m led r=>?_
 have hlt:k < σ.own.length:=by
  have:=(zn.mp hω).1
  rwa[r.oln,CN]at this
 refine AD (r.owns k σ.own[k] (by rw[Dp];simp[hlt])) fun ad' vs n o1 o2 o3 o4=>?_
 rw[hω]at o1;cases o1
 refine GD (r.BE o2) ?_
 refine Hm (r.frozen (r.F.push (E5 a)) (News.push r.F r.N (E5 a)) (fun p hp=>jD (r.N p hp).1)) fun R' le r' hz _ _=>?_
 exact hq R' _ _ le (Al (zP _)) ⟨_,_,r'⟩ (.inr hz)
end
end Ag
section
open PySem PySem.W PySem.Calls PyProof.Rows
namespace Ag
section
structure Tb where
 names:List Str
 attrs:List Str
 self:Str
 Af:Bool
 cells:List Str
 gls:List Str
 gl:List (Str×Val)
 C2:List Str
 mtn:Nat
 cls:Str
 cv:Str
 csc:Scope
 ps:Nat
noncomputable def Aj:List Str→Nat→Str
 |[],_=>Str.empty
 |x::_,0=>x
 |_::r,k+1=>Aj r k
noncomputable def Gb(n:Nat):Pos:=⟨n / 1000000000,n / 1000000 % 1000,n / 1000 % 1000+n / 1000000000,n % 1000⟩
noncomputable def Tb.p(T:Tb)(k:Nat):Pos:=Gb (T.ps / 10 ^ (12*k) % 1000000000000)
noncomputable def Tb.q(T:Tb)(i k:Nat):Pos:=⟨(T.p i).line,(T.p i).col,(T.p k).line,(T.p i).endCol⟩
noncomputable def constOf:Val→Const
 | .bool b=>.bool b
 | .int i=>.int i
 | .str x=>.str ⟨x.toArray⟩
 |_=>.none
noncomputable def EE(T:Tb)(n:Str)(xs:List PySem.Expr)(k:Nat):PySem.Expr:=.Call (.Name n (T.p (k+1))) xs [] (T.p k)
noncomputable def DE(T:Tb)(o:PySem.Expr)(n:Str)(xs:List PySem.Expr)(k:Nat):PySem.Expr:=.Call (.Attribute o n (T.q (k+1) k)) xs [] (T.p k)
noncomputable def g1:P1→Str
 | .len=>"len"
 | .sum=>"sum"
 | .squeeze=>"trans"
 | .syn1=>"_synchre"
 |_=>""
noncomputable def g2:P2→Str
 | .syn2=>"_synchre"
 |_=>""
noncomputable def g3:P3→Str
 | .syn3=>"_synchre"
 |_=>""
noncomputable def gW(p:Pos):Pos:=⟨p.line,p.col+1,p.endLine,p.endCol⟩
noncomputable def f1(T:Tb)(o:P1)(x:PySem.Expr)(k:Nat):PySem.Expr:=match o with
 | .neg=>.UnaryOp .USub x (T.p k)
 | .isnone=>.Compare x [.Is] [.Constant .none 0 (T.p (k+1))] (T.p k)
 | .notnone=>.Compare x [.IsNot] [.Constant .none 0 (T.p (k+1))] (T.p k)
 | .mstart=>DE T x "start" [] k
 | .mspan=>DE T x "span" [] k
 | .squeeze=>DE T x "translate" [.Name (g1 .squeeze) (T.p (k+2))] k
 |o=>EE T (g1 o) [x] k
noncomputable def f2(T:Tb)(o:P2)(x y:PySem.Expr)(k:Nat):PySem.Expr:=match Gy o with
 |some op=>.Compare x [op] [y] (T.p k)
 |none=>match HW o with
  |some op=>.BinOp x op y (T.p k)
  |none=>match o with
   | .idx=>.Subscript x y (T.p k)
   |o=>EE T (g2 o) [x,y] k
noncomputable def GH :E→Bool
 | .lit .none=>true
 |_=>false
noncomputable def MN(e:E)(x:PySem.Expr):Option PySem.Expr:=cond (GH e) none (some x)
noncomputable def f3(T:Tb)(o:P3)(b c:E)(x y z:PySem.Expr)(k:Nat):PySem.Expr:=match o with
 | .slc=>.Subscript x (.Slice (MN b y) (MN c z) none (T.p (k+1))) (T.p k)
 |o=>EE T (g3 o) [x,y,z] k
mutual
noncomputable def sz:E→Nat
 | .lit _=>1
 | .glob _ _=>1
 | .loc _=>1
 | .sat _=>2
 | .p1 _ a=>sz a+3
 | .p2 _ a b=>sz a+sz b+2
 | .p3 _ a b c=>sz a+sz b+sz c+2
 | .p4 _ a b c d=>sz a+sz b+sz c+sz d+2
 | .m3 _ a b c=>sz a+sz b+sz c+2
 | .bl _ es=>WP es+1
 | .not_ a=>sz a+1
 | .seq _ es=>WP es+1
 | .nlst es=>WP es+1
 | .app a=>sz a+1
 | .push _ x=>sz x+2
 | .apnd _ x=>sz x+3
 | .fcall _ es=>WP es+2
 | .scall _ es=>WP es+3
 | .mcall _ _ es=>WP es+3
 | .new es=>WP es+2
 | .icall _ x=>sz x+2
 | .wal _ x=>sz x+2
 | .ntp=>1
 | .tapp a x=>sz a+sz x+2
 | .rvt a=>sz a+3
 | .fld _ _=>2
 | .comp _ a _=>sz a+8
 | .lidx a x=>sz a+sz x+2
 | .isnt _ _=>3
noncomputable def WP:Es→Nat
 | .nil=>0
 | .cons e es=>sz e+WP es
end
noncomputable def CD:Nat→Str
 |0=>"group"
 |_=>"place"
section
variable (T:Tb)
noncomputable def gI(q k:Nat):PySem.Expr:=match q with
 |0=>.Subscript (.Name (CD q) (T.p (k+6))) (.Constant (.int 0) 0 (T.p (k+7))) (T.p (k+1))
 |_=>.Name (CD q) (T.p (k+1))
noncomputable def aO(q j k:Nat):PySem.Expr:=match q with
 |0=>.Compare (.Name (CD q) (T.p (k+4))) [.NotEq] [.List [] (T.p (k+5))] (T.p (k+3))
 |1=>.Compare (.Name (CD q) (T.p (k+4))) [.NotIn] [.Name (Aj T.names j) (T.p (k+5))] (T.p (k+3))
 |_=>.Compare (.Name (CD q) (T.p (k+4))) [.Gt] [.Subscript (.Name (Aj T.names j) (T.p (k+6))) (.Constant (.int 0) 0 (T.p (k+7))) (T.p (k+5))] (T.p (k+3))
noncomputable def Gv(q j:Nat):Scope:=⟨.function,(".0",.local)::(CD q,.local)::(match q with |0=>[] |_=>[(Aj T.names j,.free)]),false,false,[]⟩
end
section
variable (T:Tb)
mutual
noncomputable def BO:E→Nat→PySem.Expr
 | .lit v,k=>.Constant (constOf v) 0 (T.p k)
 | .glob i _,k=>.Name (Aj (T.gl.map (·.1)) i) (T.p k)
 | .loc i,k=>.Name (Aj T.names i) (T.p k)
 | .sat i,k=>.Attribute (.Name T.self (T.p (k+1))) (Aj T.attrs i) (T.p k)
 | .p1 o a,k=>f1 T o (BO a (k+3)) k
 | .p2 o a b,k=>f2 T o (BO a (k+2)) (BO b (k+2+sz a)) k
 | .p3 o a b c,k=>f3 T o b c (BO a (k+2)) (BO b (k+2+sz a)) (BO c (k+2+sz a+sz b)) k
 | .p4 _ a b c d,k=>DE T (BO a (k+2)) "rfind" [BO b (k+2+sz a),BO c (k+2+sz a+sz b),BO d (k+2+sz a+sz b+sz c)] k
 | .m3 o a b c,k=>DE T (BO a (k+2)) (match o with | .find=>"find" |_=>"replace") [BO b (k+2+sz a),BO c (k+2+sz a+sz b)] k
 | .bl o es,k=>.BoolOp (cond o .And .Or) (Ec es (k+1)) (T.p k)
 | .not_ a,k=>.UnaryOp .Not (BO a (k+1)) (T.p k)
 | .seq t es,k=>cond t (.Tuple (Ec es (k+1)) 0 (T.p k)) (.List (Ec es (k+1)) (T.p k))
 | .nlst es,k=>.List (Ec es (k+1)) (T.p k)
 | .app a,k=>.Attribute (BO a (k+1)) "append" (T.p k)
 | .push f x,k=>EE T (Aj T.names f) [BO x (k+2)] k
 | .apnd l x,k=>DE T (.Name (Aj T.names l) (T.p (k+2))) "append" [BO x (k+3)] k
 | .fcall f es,k=>EE T (Aj T.C2 f) (Ec es (k+2)) k
 | .scall f es,k=>DE T (.Name T.self (T.p (k+2))) (Aj T.C2 f) (Ec es (k+3)) k
 | .mcall f j es,k=>DE T (.Name (Aj T.names j) (T.p (k+2))) (Aj T.C2 f) (Ec es (k+3)) k
 | .new es,k=>EE T T.cls (Ec es (k+2)) k
 | .icall f x,k=>EE T (Aj T.names f) [BO x (k+2)] k
 | .wal i x,k=>.NamedExpr (.Name (Aj T.names i) (T.p (k+1))) (BO x (k+2)) (T.p k)
 | .ntp,k=>.List [] (T.p k)
 | .rvt a,k=>.Subscript (BO a (k+3)) (.Slice none none (some (.UnaryOp .USub (.Constant (.int 1) 0 (gW (T.p (k+2)))) (T.p (k+2)))) (T.p (k+1))) (T.p k)
 | .tapp a x,k=>DE T (BO a (k+2)) "append" [BO x (k+2+sz a)] k
 | .fld j i,k=>.Attribute (.Name (Aj T.names j) (T.p (k+1))) (Aj T.attrs i) (T.p k)
 | .comp q a j,k=>.ListComp (gI T q k) [⟨.Name (CD q) (T.p (k+2)),BO a (k+8),[aO T q j k],0⟩] (Gv T q j) (T.p k)
 | .lidx a x,k=>DE T (BO a (k+2)) "index" [BO x (k+2+sz a)] k
 | .isnt i j,k=>.Compare (.Name (Aj T.names i) (T.p (k+1))) [.IsNot] [.Name (Aj T.names j) (T.p (k+2))] (T.p k)
noncomputable def Ec:Es→Nat→List PySem.Expr
 | .nil,_=>[]
 | .cons e es,k=>BO e k::Ec es (k+sz e)
end
end
end
section
set_option maxHeartbeats 4000000
noncomputable def Lo:Es→Nat
 | .nil=>0
 | .cons _ es=>Lo es+1
noncomputable def Wq(e:E):Bool:=Nat.beq e.ctorIdx 2
noncomputable def isNil:Es→Bool
 | .nil=>true
 |_=>false
noncomputable def Dk:E→Bool
 | .p2 o _ _=>(match o with | .idx=>true |_=>false)
 |e=> !cin e.ctorIdx [4,5,16,19,26]
theorem AA(T:Tb)(e:E)(k:Nat):Ah (BO T e k)=true:=by
 induction e using E.casesOn with
 |p1 o a=>cases o <;>rfl
 |p2 o a b=>cases o <;>rfl
 |p3 o a b c=>cases o <;>rfl
 |seq t es=>induction t using za <;>rfl
 |_=>rfl
theorem BJ(T:Tb):∀(es:Es) (k:Nat),(Ec T es k).all Ah=true
 | .nil,_=>rfl
 | .cons e es,k=>by
  show(Ah (BO T e k) && (Ec T es (k+sz e)).all Ah)=true
  rw[AA,BJ];rfl
theorem Ce(T:Tb){e:E}(k:Nat)(h:Dk e=true):Cs (BO T e k):=by
 induction e using E.casesOn with
 |fcall f es=>exact ft h
 |new es=>exact ft h
 |p1 o a=>exact ft h
 |p2 o a b=>
  induction o using P2.casesOn with
  |idx=>exact fun _ _ _=>rfl
  |_=>exact ft h
 |comp _ _ _=>exact ft h
 |p3 o a b c=>cases o <;>exact fun _ _ _=>rfl
 |seq t es=>induction t using za <;>exact fun _ _ _=>rfl
 |_=>exact fun _ _ _=>rfl
theorem D6(T:Tb)(e:E)(k:Nat):Dm (BO T e k)=false:=by
 induction e using E.casesOn with
 |p1 o a=>cases o <;>rfl
 |p2 o a b=>cases o <;>rfl
 |p3 o a b c=>cases o <;>rfl
 |seq t es=>induction t using za <;>rfl
 |_=>rfl
theorem EG(T:Tb):∀(es:Es) (k:Nat),(Ec T es k).length=Lo es
 | .nil,_=>rfl
 | .cons e es,k=>zy (· +1) (EG T es (k+sz e))
end
section
set_option maxHeartbeats 4000000
section
variable {c:Cx}{C:Cfg}{S:Sx}{d:Nat}{f:Fx}{A:Around}{X:AN→St→Prop}{R R':Rec}{σ σ':St}{s s':Shared}{m:Str→Option Value}{led:List (Addr×Obj)}{K:LV→St→Prop}{Ev:Value→Shared→Prop}{Q:Value→Shared→Prop}
noncomputable def Nx(c:Cx)(f:Fx)(R:Rec)(s:Shared)(K:LV→St→Prop)(Q:Value→Shared→Prop):Prop:=
 ∀l σ' R' rv s',R.le R'→An s s'→K l σ'→Ap c f R' σ' s'.heap→LR c R' l rv→Q rv s'
theorem Nx.up{R R':Rec}{s s':Shared}(h:Nx c f R s K Q)(le:R.le R')(sm:An s s'):Nx c f R' s' K Q:=
 fun l σ' R'' rv s'' le' sm'=>h l σ' R'' rv s'' (le.trans le') (sm.trans sm')
theorem LX{e:E}{x:PySem.Expr}(hi:∀env whole,isTrue x env whole=(do let v ←whole;standAt x.pos;holding [v] (truthy v)))(he:∀{X:AN→St→Prop} {σ:St} {K:Bool→St→Prop},Kz C X e K σ→B2 C X e (Eg K) σ)
  (ie:AE c C d S e x):Ej c C d S e x:=by
 intro f A X R σ s K a h Ev Q xo hq
 refine isTrue_plain (ie.go a (he h) Ev _ xo fun l σ₁ R₁ rv s₁ le sm hk r hl=>?_) (hi _ _)
 exact D9 (a.up le sm r) hl hk fun b s' sm' r' hb=>hq b σ₁ R₁ s' le (sm.trans sm') hb r'
theorem Rc{x v:Val}{b:Bool}(h:Rb b x=some v):(x=.none∧v=.bool b)∨((∀{c:Cx} {R:Rec} {h:Heap} {rv:Value},VH c R h x rv→rv≠ .none)∧v=.bool !b):=by
 induction x using Val.casesOn with
 |none=>exact .inl ⟨rfl,(ze h).symm⟩
 |int _=>exact .inr ⟨fun y e=>zg y.Q9 fun t h=>(nomatch h.symm.trans e),(ze h).symm⟩
 |_=>exact nz h
theorem VH.WB{x:Val}{rv:Value}{h:Heap}(y:VH c R h x rv)(e:x=.none):rv=.none:=by rw[e]at y;exact y.Lw
theorem eA(r:Ap c f R σ s.heap){x v:Val}{rv:Value}(hx:VH c R s.heap x rv)(h:Rb true x=some v):AV c f A R σ s (compareOp .Is rv .none) v:=by
 rcases Rc h with⟨e,rfl⟩ |⟨e,rfl⟩
 ·rw[hx.WB e];exact AV.plain r fun Ev Q hq=>is_none_none (hq _ s.toks (.bool _))
 ·exact AV.plain r fun Ev Q hq=>is_none_ne (e hx) (hq _ s.toks (.bool _))
theorem N8(r:Ap c f R σ s.heap){x v:Val}{rv:Value}(hx:VH c R s.heap x rv)(h:Rb false x=some v):AV c f A R σ s (compareOp .IsNot rv .none) v:=by
 rcases Rc h with⟨e,rfl⟩ |⟨e,rfl⟩
 ·rw[hx.WB e];exact AV.plain r fun Ev Q hq=>isnot_none_none (hq _ s.toks (.bool _))
 ·exact AV.plain r fun Ev Q hq=>isnot_none_ne (e hx) (hq _ s.toks (.bool _))
theorem h9(a:At c S d f A X R σ s){vs:List Val}{rvs:List Value}(hvs:c.Vs R vs rvs)(hl:vs.length≤AJ):AV c f A R σ s (newTuple rvs) (.seq true vs):=by
 refine AV.made a.r fun Ev Q m led r0 hq=>?_
 refine newTuple_N r0.F r0.N (fun h' F N=>?_) (by rw[hvs.length,←A6];exact hl)
 exact hq _ _ _ h' s.toks F N (fun p hp=>jD (r0.N p hp).1) fun R' le hz=>.seq (.of (.inr hz)) hl (Vs.up le hvs)
theorem Wx(a:At c S d f A X R σ s){vs:List Val}{rvs:List Value}(hvs:c.Vs R vs rvs)(hl:vs.length≤AJ):AV c f A R σ s (newList rvs) (.seq false vs):=by
 refine AV.made a.r fun Ev Q m led r0 hq=>?_
 refine newList_K r0.F r0.N (fun l h' F N hf=>?_) (by rw[hvs.length,←A6];exact hl)
 exact hq _ _ _ h' s.toks F N hf fun R' le hz=>.seq (.of (.inr hz)) hl (Vs.up le hvs)
theorem IL{x:PySem.Expr}{n:Str}{p:Pos}(hb:Cs x)(h:wpAny (model c.prog c.w) A (eval x f.env) (fun o s₁=>∃a,o=.ref a∧wpAny (model c.prog c.w) A (getAttr (.ref a) n true) Q Ev s₁) Ev s)
  (hn:∀{l:Addr} (r:Value),letTemporaryGo x (.ref l) r=pure ()):wpAny (model c.prog c.w) A (eval (.Attribute x n p) f.env) Q Ev s:=by
 show wpAny _ _ (attributeBase x n f.env (eval x f.env) >>=_) _ _ _
 rw[hb]
 refine zj (zW h (fun o s₁ h₁=>?_) fun _ _ x=>x)
 refine Aa h₁ ?_;clear h₁;intro a hq1 h₁;subst hq1
 refine zj (Ji (zj (jw (zW h₁ (fun r s₂ h₂=>?_) fun _ _ x=>x))))
 refine zj ?_
 rw[hn]
 exact zF (zF h₂)
theorem OM(a:At c S d f A X R σ s){k:Nat}{ad:Addr}{v:Val}{rv:Value}{xs:List Val}(hω:R.ω[k]? =some ad)(hv:c.V R v rv)(hx:Fk σ.own k=some xs){P:Prop}
  (h:Be (Nat.blt xs.length AJ) P False) (hq:∀s',An s s'→∀R',Ap c f R' (σ.SD k (xs++[v])) s'.heap→R.le R'→P→Q .none s'):
  wpAny (model c.prog c.w) A (call (.builtin "list.append") [.ref ad,rv]) Q Ev s:=by
 refine Av a.r fun m led r=>?_
 refine AD (r.owns k xs hx) fun ad' vs n o1 o2 o3 o4=>?_
 rw[hω]at o1;cases o1
 refine Aw (Bm h) fun hlt hP=>?_
 have hlt:=CC hlt
 have e:(vs.toArray.push rv)=(vs++[rv]).toArray:=List.push_toArray ..
 refine append_K (n:=n) r.F r.N (news':=put ad (seqObj false (vs++[rv]) (n+1)) led) ?_ (fun h' F N=>?_) (by rw[zL,o4.length,←A6];exact o3)
 ·rw[e];exact Gp _ o2 r.nd
 ·exact hq _ AK R ⟨m,_,r.RT hω F N (AU.append o4 (.cons hv .nil)) (by rw[zd];exact hlt)⟩ (.refl R) hP
theorem UP(r:Rel c f R σ s.heap m led){k:Nat}{ad:Addr}(hω:R.ω[k]? =some ad){pl:Sem Bool}{Q:Value×List Value→Shared→Prop}(h:Q (.builtin "list.append",[.ref ad]) s):
  wpAny (model c.prog c.w) A (getMethod (.ref ad) "append" pl) Q Ev s:=by
 have hlt:k < σ.own.length:=by
  have:=(zn.mp hω).1
  rwa[r.oln,CN]at this
 refine AD (r.owns k σ.own[k] (by rw[Dp];exact jq hlt)) fun ad' vs n o1 o2 o3 o4=>?_
 rw[hω]at o1;cases o1
 exact listMethod_K r.N o2 slot_list_append (by kernel_rfl) h
theorem VH.atom{h:Heap}{x:Val}{rv:Value}(y:VH c R h x rv)(hx:isAtom x=true):c.V R x rv:=by
 induction y using VH.casesOn with
 |of y=>exact y
 |own _ _ _=>exact ft hx
theorem Sl{M:Model}{x:Str}{tk:Tok}{pl:Sem Bool}{Q:Value×List Value→Shared→Prop}(h:Q (.builtin "str.replace",[.str x tk]) s):wpAny M A (getMethod (.str x tk) "replace" pl) Q Ev s:=
 GM.of _ (Jw _ _ _) PySem.F.slot_str_replace PySem.F.type_str_replace (fun _ h=>nomatch h) h
theorem Si{M:Model}{env:Env}{pos r r':Pos}{id:String}{v:Value}{sa sb:Str}{k k':Nat}
  (h:wpAny M A (call (.builtin id) [v,.str sa s.toks,.str sb (s.toks+1)]) Q Ev {s with heap:=s.heap,toks:=s.toks+1+1}):
  wpAny M A (callWith pos (.builtin id) [v] (backTo pos (starEach [.Constant (.str sa) k r,.Constant (.str sb) k' r'] env)) []) Q Ev s:=by
 refine j8 ?_ (Ab rfl) (AR (xs:=[.Constant (.str sb) k' r']) rfl)
 refine jf (wpAny_Constant_str ?_) (Ab rfl)
 refine jf (wpAny_Constant_str ?_) (Ab rfl)
 exact jI h
theorem AV.ku{t:Sem Value}{v:Val}{K:Bool→St→Prop}{Q:Bool→Shared→Prop}{R₀:Rec}{s₀:Shared}(h:AV c f A R σ s t v)(a:At c S d f A X R σ s)(hk:Eg K (.v v) σ)(le:R₀.le R)(sm:An s₀ s)
  (hq:∀b σ' R' s',R₀.le R'→An s₀ s'→K b σ'→Ap c f R' σ' s'.heap→Q b s'):wpAny (model c.prog c.w) A t (fun v s₁=>wpAny (model c.prog c.w) A (truthy v) Q Ev s₁) Ev s:=
 h Ev _ fun R' rv s' le' sm' r hv=>D9 (a.up le' sm' r) (.v hv) hk fun b s'' sm'' r'' hb=>hq b σ R' s'' (le.trans le') ((sm.trans sm').trans sm'') hb r''
section
variable {e e' e'' e3:E}{x y z w:PySem.Expr}{es:Es}{xs:List PySem.Expr}{p q q':Pos}
theorem TT{k:Nat}:AE c C d S (.lit .none) (.Constant .none k p):=fun _ _ _ _ _ _ _ a h _ _ _ hq=>jX (done a h (.v .none) (.refl _) rfl hq)
theorem TO{k:Nat}{b:Bool}:AE c C d S (.lit (.bool b)) (.Constant (.bool b) k p):=fun _ _ _ _ _ _ _ a h _ _ _ hq=>wpAny_Constant_bool (done a h (.v (.bool _)) (.refl _) rfl hq)
theorem Xu{k:Nat}{i:Int}:AE c C d S (.lit (.int i)) (.Constant (.int i) k p):=fun _ _ _ _ _ _ _ a h _ _ _ hq=>wpAny_Constant_int (done a h (.v (.int _ _)) (Al (zP _)) rfl hq)
theorem XI{k:Nat}{t:Txt}(hl:t.length≤AJ):AE c C d S (.lit (.str t)) (.Constant (.str ⟨t.toArray⟩) k p):=fun _ _ _ _ _ _ _ a h _ _ _ hq=>wpAny_Constant_str (done a h (.v (.str _ _ hl)) (Al (zP _)) rfl hq)
theorem TP(ok:Dy c){i:Nat}{n:Str}{v:Val}(hg:(n,v)∈c.gl)(hk:S.cs.names.lookup n=some .globalImplicit)(hd:(n==("__debug__":Str))=false):AE c C d S (.glob i v) (.Name n p):=by
 intro f A X R σ s K a h Ev Q xo hq
 refine Aa (ok.gl _ _ hg) fun rv e hv=>?_
 exact GE a ⟨e,hk,hd⟩ (done a h (.v (hv R)) (.refl _) rfl hq)
theorem Xv{k:Nat}{n:Str}(hn:S.names[k]? =some n):AE c C d S (.loc k) (.Name n p):=by
 intro f A X R σ s K a h Ev Q xo hq
 refine Aa (Ad h) fun l hl h=>?_
 refine Av a.r fun m led r=>?_
 exact A5 a.G a.NM r (by rw[a.names];exact hn) hl fun rv hlr=>done a h hlr (.refl _) rfl hq
theorem NJ(a:At c S d f A X R σ s)(hm:S.Af=true):∃x dx,R.sd=some (x,dx):=by
 obtain⟨⟨x,dx⟩,h⟩:∃p,R.sd=some p:=Jr.mp (by rw[a.Af,hm])
 exact⟨x,dx,h⟩
theorem XG(ok:Dy c){k:Nat}{n:Str}(hm:S.Af=true)(hk:S.cs.names.lookup c.self=some .local)(hd:(c.self==("__debug__":Str))=false)(hn:c.attrs[k]? =some n):AE c C d S (.sat k) (.Attribute (.Name c.self p) n q):=by
 intro f A X R σ s K a h Ev Q xo hq
 refine Aa (Ad h) fun l hl h=>?_
 refine Av (NJ a hm) fun x dx hsd=>?_
 exact Attribute_any_ (E0 a hsd hk hd (T8 ok a hsd hn hl fun rv s' sm r hlr=>hq l σ R rv s' (.refl R) sm h r hlr)) rfl
theorem QJ(i:AE c C d S e x):AE c C d S (.p1 .neg e) (.UnaryOp .USub x p):=fun _ _ _ _ _ _ _ a h _ _ xo hq=>
 wpAny_UnaryOp (one i a h xo fun _ _ _ _ _ _ le sm at₁ hx hv hk=>(eg at₁.r hx hv).to hk le sm hq)
theorem XM{k:Nat}{n:Str}(hn:S.names[k]? =some n)(hf:S.cs.names.lookup n≠some .free)(i:AE c C d S e x):AE c C d S (.wal k e) (.NamedExpr (.Name n q) x p):=by
 intro f A X R σ s K a h Ev Q xo hq
 refine wpAny_NamedExpr (i.go a h Ev _ xo fun l σ₁ R₁ rv s₁ le sm hk r hl=>?_)
 have a₁:=a.up le sm r
 refine Av r fun m led r0=>?_
 exact wpAny_assign_Name (Br a₁.G a₁.NM r0 (by rw[a₁.names];exact hn) (by rw[a₁.cs];exact hf) hl fun s' sm' r'=>hq l (σ₁.BB k l) R₁ rv s' le (sm.trans sm') hk r' hl)
theorem ON{k:Nat}(i:AE c C d S e x):AE c C d S (.p1 .isnone e) (.Compare x [.Is] [.Constant .none k q] p):=fun _ _ _ _ _ _ _ a h _ _ xo hq=>
 wpAny_Compare1 (one i a h xo fun _ _ _ _ _ _ le sm at₁ hx hv hk=>jX ((eA at₁.r hx hv).to hk le sm hq)) rfl
theorem ZX(i:AE c C d S e x):Ej c C d S (.p1 .neg e) (.UnaryOp .USub x p):=LX (fun _ _=>rfl) (fun h=>h) (QJ i)
theorem PA{k:Nat}(i:AE c C d S e x):Ej c C d S (.p1 .isnone e) (.Compare x [.Is] [.Constant .none k q] p):=fun _ _ _ _ _ _ K a h _ _ xo hq=>
 wpAny_isTrue_Compare1 (one i a (K:=Eg K) h xo fun _ _ _ _ _ _ le sm at₁ hx hv hk=>jX ((eA at₁.r hx hv).ku at₁ hk le sm hq)) rfl
theorem Mq{k:Nat}(i:AE c C d S e x):AE c C d S (.p1 .notnone e) (.Compare x [.IsNot] [.Constant .none k q] p):=fun _ _ _ _ _ _ _ a h _ _ xo hq=>
 wpAny_Compare1 (one i a h xo fun _ _ _ _ _ _ le sm at₁ hx hv hk=>jX ((N8 at₁.r hx hv).to hk le sm hq)) rfl
theorem M4{k:Nat}(i:AE c C d S e x):Ej c C d S (.p1 .notnone e) (.Compare x [.IsNot] [.Constant .none k q] p):=fun _ _ _ _ _ _ K a h _ _ xo hq=>
 wpAny_isTrue_Compare1 (one i a (K:=Eg K) h xo fun _ _ _ _ _ _ le sm at₁ hx hv hk=>jX ((N8 at₁.r hx hv).ku at₁ hk le sm hq)) rfl
theorem ky(a:At c S d f A X R σ s):A.units+64 < cLine:=by have:=a.G.units;lia
theorem Xp{o:P2}{op:CmpOp}(ho:Gy o=some op)(hs:Dm y=false)(i:AE c C d S e x)(j:AE c C d S e' y):AE c C d S (.p2 o e e') (.Compare x [op] [y] p):=fun _ _ _ _ _ _ _ a h _ _ xo hq=>
 wpAny_Compare1 (two i j a h xo fun _ _ _ _ _ _ _ _ le sm at₂ hx hy hv hk=>(WH (ky at₂) at₂.r ho hx hy hv).to hk le sm hq) (HV hs)
theorem ZW{o:P2}{op:CmpOp}(ho:Gy o=some op)(hs:Dm y=false)(i:AE c C d S e x)(j:AE c C d S e' y):Ej c C d S (.p2 o e e') (.Compare x [op] [y] p):=fun _ _ _ _ _ _ K a h _ _ xo hq=>
 wpAny_isTrue_Compare1 (two i j a (K:=Eg K) h xo fun _ _ _ _ _ _ _ _ le sm at₂ hx hy hv hk=>(WH (ky at₂) at₂.r ho hx hy hv).ku at₂ hk le sm hq) (HV hs)
theorem Xo{o:P2}{op:Operator}(ho:HW o=some op)(i:AE c C d S e x)(j:AE c C d S e' y):AE c C d S (.p2 o e e') (.BinOp x op y p):=fun _ _ _ _ _ _ _ a h _ _ xo hq=>
 wpAny_BinOp (two i j a h xo fun _ _ _ _ _ _ _ _ le sm at₂ hx hy hv hk=>(d0 at₂.r ho hx hy hv).to hk le sm hq)
theorem Xr(i:AE c C d S e x)(j:AE c C d S e' y):AE c C d S (.p2 .idx e e') (.Subscript x y p):=fun _ _ _ _ _ _ _ a h _ _ xo hq=>
 Subscript_ (two i j a h xo fun _ _ _ _ _ _ _ _ le sm at₂ hx hy hv hk=>by
  refine Aa (bI hv) fun i ey h=>?_
  rw[ey]at hy
  refine zg hy.Q9 fun t e=>?_
  rw[e]
  exact(WI at₂.r hx h).to hk le sm hq)
theorem Kb{h:Heap}{v:Val}{rv:Value}{n:Nat}{i:Int}(hv:VH c R h v rv)(hi:Ca n v=some i∨CL v=some i):c.V R v rv:=by
 induction hv using VH.casesOn with
 |of y=>exact y
 |own _ _ _=>rcases hi with hi |hi <;>exact nz hi
theorem RK{e:E}(h:GH e=true):e=.lit .none:=by
 induction e using E.casesOn with
 |lit v=>induction v using Val.casesOn with
  |none=>rfl
  |_=>exact ft h
 |_=>exact ft h
theorem WF{o:Option PySem.Expr}(h:o=MN e x)(i:AE c C d S e x):aq c C d S e o:=by
 intro f A X R σ s K a hw Ev Q xo hq
 subst h
 unfold MN
 induction hn:GH e using za with
 |false=>exact wpAny_evalPart_some (i.go a hw Ev Q xo hq)
 |true=>
  rw[RK hn]at hw
  exact wpAny_evalPart_none (done a hw (.v .none) (.refl _) rfl hq)
theorem HY{o o':Option Int}{k:Int→Int→Val}{v:Val}(h:both o o' k=some v):∃a b,o=some a∧o'=some b∧v=k a b:=by
 induction o using zh with
 |none=>exact nz h
 |some a=>induction o' using zh with
  |none=>exact nz h
  |some b=>exact⟨a,b,rfl,rfl,(ze h).symm⟩
theorem Of{x lo hi v:Val}(h:Zp x lo hi=some v):(∃t a b,x=.str t∧CL lo=some a∧Ca t.length hi=some b∧v=.str (slice t a b))∨∃t a b,x=.seq false t∧CL lo=some a∧Ca t.length hi=some b∧v=.seq false (slice t a b):=by
 induction x using Val.casesOn with
 |str t=>exact .inl (Aq (HY h) fun a b h1 h2 h3=>⟨t,a,b,rfl,h1,h2,h3⟩)
 |seq _ _=>exact .inr (Aa (bL h) fun t e h=>Aq (HY h) fun a b h1 h2 h3=>⟨t,a,b,e,h1,h2,h3⟩)
 |_=>exact nz h
theorem XH{lo hi:Option PySem.Expr}(i:AE c C d S e x)(j:aq c C d S e' lo)(k:aq c C d S e'' hi):AE c C d S (.p3 .slc e e' e'') (.Subscript x (.Slice lo hi none q) p):=by
 intro f A X R σ s K a h Ev Q xo hq
 refine Subscript_ (i.go a h Ev _ xo fun la σ₁ R₁ ra s₁ le sm hk r hla=>?_)
 refine wpAny_Slice (j.go (a.up le sm r) hk Ev _ (xo.up le sm) fun lb σ₂ R₂ rb s₂ le₂ sm₂ hk r₂ hlb=>?_)
 refine k.go ((a.up le sm r).up le₂ sm₂ r₂) hk Ev _ ((xo.up le sm).up le₂ sm₂) fun lc σ₃ R₃ rc s₃ le₃ sm₃ hk r₃ hlc=>?_
 refine wpAny_evalPart_none ?_
 refine Aa (Ad hk) fun xv hx hk=>?_
 refine Aa (Ad hk) fun yv hy hk=>?_
 refine Aa (Ad hk) fun zv hz hk=>?_
 refine Aa (Ad hk) fun v hv hk=>?_
 have hq':Nx c f R s K Q:=hq
 have hq':=((hq'.up le sm).up le₂ sm₂).up le₃ sm₃
 refine Av r₃ fun m led r0=>?_
 have Hx:=Bi r0 hx ((hla.up le₂).up le₃)
 have Hy:=Bi r0 hy (hlb.up le₃)
 have Hz:=Bi r0 hz hlc
 refine(Of hv).elim (fun h=>AD h fun t i j ex q1 q2 ev=>?_) fun h=>AD h fun t i j ex q1 q2 ev=>?_
 ·rw[ex]at Hx
  rw[ev]at hk
  refine Aa Hx.SR fun tk e hl=>?_
  rw[e]
  exact(Za (σ:=σ₃) ⟨m,led,r0⟩ hl (Kb (n:=0) Hy (.inr q1)) (Kb Hz (.inl q2)) q1 q2).to hk (.refl _) AK hq'
 ·rw[ex]at Hx
  rw[ev]at hk
  exact(Y9 (σ:=σ₃) ⟨m,led,r0⟩ Hx (Kb (n:=0) Hy (.inr q1)) (Kb Hz (.inl q2)) q1 q2).to hk (.refl _) AK hq'
theorem XB(i:AE c C d S e x):AE c C d S (.not_ e) (.UnaryOp .Not x p):=fun _ _ _ _ _ _ _ a h Ev _ xo hq=>
 wpAny_UnaryOp (i.go a h Ev _ xo fun _ σ₁ R₁ _ _ le sm hk r hl=>not_of (D9 (a.up le sm r) hl hk fun _ s' sm' r' hb=>hq _ σ₁ R₁ _ s' le (sm.trans sm') hb r' (.v (.bool _))))
theorem ZY(i:Ej c C d S e x):Ej c C d S (.not_ e) (.UnaryOp .Not x p):=fun _ _ _ _ _ _ _ a h Ev _ xo hq=>
 isTrue_not (i.go a h Ev _ xo fun b σ₁ R₁ s₁ le sm hk r=>hq (!b) σ₁ R₁ s₁ le sm hk r)
theorem XJ{k:Nat}(hl:xs.length≤AJ)(hp:xs.all Ah=true)(i:V8 c C d S es xs):AE c C d S (.seq true es) (.Tuple xs k p):=fun _ _ _ _ _ _ _ a h Ev _ xo hq=>
 Tuple_ (i.go hp a h Ev _ xo fun _ _ _ _ _ le sm hk r hvs hlen=>(h9 (a.up le sm r) hvs (by rw[hlen];exact hl)).to hk le sm hq)
theorem Xw(hl:xs.length≤AJ)(hp:xs.all Ah=true)(i:V8 c C d S es xs):AE c C d S (.seq false es) (.List xs p):=fun _ _ _ _ _ _ _ a h Ev _ xo hq=>
 List_ (i.go hp a h Ev _ xo fun _ _ _ _ _ le sm hk r hvs hlen=>(Wx (a.up le sm r) hvs (by rw[hlen];exact hl)).to hk le sm hq)
theorem TS(hl:xs.length≤AJ)(hp:xs.all Ah=true)(i:V8 c C d S es xs):AE c C d S (.nlst es) (.List xs p):=by
 intro f A X R σ s K a hw Ev Q xo hq
 refine List_ (i.go hp a hw Ev _ xo fun vs σ₁ R₁ rvs s₁ le sm hk r hvs hlen=>?_)
 refine Av r fun m led r0=>?_
 refine newList_K r0.F r0.N (fun l h' F N hf=>?_) (by rw[hvs.length,hlen,←A6];exact hl)
 refine BZ (r0.YF F N hf hvs (by rw[hlen];exact hl)) fun R₂ le₂ r₂ hω=>?_
 exact hq _ _ R₂ _ _ (le.trans le₂) (sm.trans AK) hk ⟨_,_,r₂⟩ (.loc hω)
end
end
end
section
set_option maxHeartbeats 4000000
section
variable {c:Cx}{C:Cfg}{S:Sx}{d:Nat}{f:Fx}{A:Around}{X:AN→St→Prop}{R R':Rec}{σ σ':St}{s s':Shared}{m:Str→Option Value}{led:List (Addr×Obj)}{K:LV→St→Prop}{Ev:Value→Shared→Prop}{Q:Value→Shared→Prop}
variable {e e' e'' e3:E}{x y z w:PySem.Expr}{es:Es}{xs:List PySem.Expr}{p q q':Pos}{n:Str}
theorem fo(h:∀(X:AN→St→Prop) (K:Bool→St→Prop) (σ:St),Kz C X e K σ→False):Ej c C d S e x:=fun _ _ X _ σ _ K _ hw=>(h X K σ hw).elim
theorem Qn{o:Bool}{op:BoolOp}(i:AE c C d S e x):AE c C d S (.bl o (.cons e .nil)) (.BoolOp op [x] p):=fun _ _ _ _ _ _ _ a h Ev Q xo hq=>BoolOp_one (i.go a h Ev Q xo hq)
theorem Xe{e':E}{ys:List PySem.Expr}(i:AE c C d S e x)(j:AE c C d S (.bl true (.cons e' es)) (.BoolOp .And (y::ys) p)):AE c C d S (.bl true (.cons e (.cons e' es))) (.BoolOp .And (x::y::ys) p):=by
 intro f A X R σ s K a h Ev Q xo hq
 refine BoolOp_and (i.go a h Ev _ xo fun l σ₁ R₁ rv s₁ le sm hk r hl=>?_)
 refine D9 (a.up le sm r) hl hk fun b s' sm' r' hb=>?_
 induction b using za with
 |true=>exact j.go (a.up le (sm.trans sm') r') hb Ev Q (xo.up le (sm.trans sm')) (Nx.up hq le (sm.trans sm'))
 |false=>exact hq l σ₁ R₁ rv s' le (sm.trans sm') hb r' hl
theorem aK{e':E}{ys:List PySem.Expr}(i:AE c C d S e x)(j:AE c C d S (.bl false (.cons e' es)) (.BoolOp .Or (y::ys) p)):AE c C d S (.bl false (.cons e (.cons e' es))) (.BoolOp .Or (x::y::ys) p):=by
 intro f A X R σ s K a h Ev Q xo hq
 refine BoolOp_or (i.go a h Ev _ xo fun l σ₁ R₁ rv s₁ le sm hk r hl=>?_)
 refine D9 (a.up le sm r) hl hk fun b s' sm' r' hb=>?_
 induction b using za with
 |false=>exact j.go (a.up le (sm.trans sm') r') hb Ev Q (xo.up le (sm.trans sm')) (Nx.up hq le (sm.trans sm'))
 |true=>exact hq l σ₁ R₁ rv s' le (sm.trans sm') hb r' hl
theorem VQ(i:Ej c C d S e x):Ej c C d S (.bl true (.cons e .nil)) (.BoolOp .And [x] p):=by
 intro f A X R σ s K a h Ev Q xo hq
 refine isTrue_and (i.go a h Ev _ xo fun b σ₁ R₁ s₁ le sm hk r=>?_)
 induction b using za with
 |true=>exact isTrue_and_nil (hq true σ₁ R₁ s₁ le sm hk r)
 |false=>exact hq false σ₁ R₁ s₁ le sm hk r
theorem ZR(i:Ej c C d S e x):Ej c C d S (.bl false (.cons e .nil)) (.BoolOp .Or [x] p):=by
 intro f A X R σ s K a h Ev Q xo hq
 refine isTrue_or (i.go a h Ev _ xo fun b σ₁ R₁ s₁ le sm hk r=>?_)
 induction b using za with
 |false=>exact isTrue_or_nil (hq false σ₁ R₁ s₁ le sm hk r)
 |true=>exact hq true σ₁ R₁ s₁ le sm hk r
theorem ZQ{e':E}{ys:List PySem.Expr}(i:Ej c C d S e x)(j:Ej c C d S (.bl true (.cons e' es)) (.BoolOp .And (y::ys) p)):Ej c C d S (.bl true (.cons e (.cons e' es))) (.BoolOp .And (x::y::ys) p):=by
 intro f A X R σ s K a h Ev Q xo hq
 refine isTrue_and (i.go a h Ev _ xo fun b σ₁ R₁ s₁ le sm hk r=>?_)
 induction b using za with
 |true=>exact j.go (a.up le sm r) hk Ev Q (xo.up le sm) fun b σ' R' s'' le' sm''=>hq b σ' R' s'' (le.trans le') (sm.trans sm'')
 |false=>exact hq false σ₁ R₁ s₁ le sm hk r
theorem fj{e':E}{ys:List PySem.Expr}(i:Ej c C d S e x)(j:Ej c C d S (.bl false (.cons e' es)) (.BoolOp .Or (y::ys) p)):Ej c C d S (.bl false (.cons e (.cons e' es))) (.BoolOp .Or (x::y::ys) p):=by
 intro f A X R σ s K a h Ev Q xo hq
 refine isTrue_or (i.go a h Ev _ xo fun b σ₁ R₁ s₁ le sm hk r=>?_)
 induction b using za with
 |false=>exact j.go (a.up le sm r) hk Ev Q (xo.up le sm) fun b σ' R' s'' le' sm''=>hq b σ' R' s'' (le.trans le') (sm.trans sm'')
 |true=>exact hq true σ₁ R₁ s₁ le sm hk r
theorem bG{l:LV}{P:Nat→Prop}(h:match l with | .loc k=>P k |_=>False):∃k,l=.loc k∧P k:=by
 induction l using LV.casesOn with
 |loc k=>exact⟨k,rfl,h⟩
 |_=>exact h.elim
theorem gE{l:LV}{P:Nat→Prop}(h:match l with | .app k=>P k |_=>False):∃k,l=.app k∧P k:=by
 induction l using LV.casesOn with
 |app k=>exact⟨k,rfl,h⟩
 |_=>exact h.elim
theorem LR.Yk{k:Nat}{rv:Value}(h:LR c R (.loc k) rv):∃a,rv=.ref a∧R.ω[k]? =some a:=by cases h with |loc h=>exact⟨_,rfl,h⟩
theorem LR.gD{k:Nat}{rv:Value}(h:LR c R (.app k) rv):∃a q,rv=.ref q∧R.ω[k]? =some a∧c.Z R q (E5 a):=by cases h with |app h z=>exact⟨_,_,rfl,h,z⟩
theorem Td(le:R.le R'){k:Nat}{a:Addr}(h:R.ω[k]? =some a):R'.ω[k]? =some a:=by
 refine zg le.ω fun t ht=>?_
 rw[ht,zJ (zn.mp h).1];exact h
theorem Xn(hb:Cs x)(hn:∀{l:Addr} (r:Value),letTemporaryGo x (.ref l) r=pure ())(i:AE c C d S e x):AE c C d S (.app e) (.Attribute x "append" p):=by
 intro f A X R σ s K a h Ev Q xo hq
 refine IL hb (i.go a h Ev _ xo fun l σ₁ R₁ rv s₁ le sm hk r hl=>?_) hn
 refine Aa (bG hk) fun k hq1 hk=>?_;subst hq1
 refine Aa hl.Yk fun ad hq1 hω=>?_;subst hq1
 exact⟨_,rfl,Uu c (a.up le sm r) hω Ev Q fun R' q s' le' sm' r' z=>hq (.app k) σ₁ R' (.ref q) s' (le.trans le') (sm.trans sm') hk r' (.app (Td le' hω) z)⟩
theorem TU{k:Nat}(hn:S.names[k]? =some n)(hp:Ah y=true)(i:AE c C d S e y):AE c C d S (.push k e) (.Call (.Name n q) [y] [] p):=by
 intro f A X R σ s K a h Ev Q xo hq
 refine Aa (Ad h) fun l hl h=>?_
 refine Av a.r fun m led r=>?_
 rw[AI]
 refine zj (A5 a.G a.NM r (by rw[a.names];exact hn) hl fun rv hlr=>?_)
 refine Aa (gE h) fun k hq1 h=>?_;subst hq1
 refine Aq hlr.gD fun ad q hq2 hω hz=>?_;subst hq2
 refine callWith_bound (id:="list.append") (self:=.ref ad) (Da hp) (jf (i.go a h Ev _ xo fun l σ₁ R₁ rv s₁ le sm hk r₁ hl₁=>jI ?_) (Ab hp))
 have a₁:=a.up le sm r₁
 refine Av r₁ ?_;clear r₁;intro m₁ led₁ r₁
 have hz₁:=Cx.Z.mono le _ _ hz
 refine⟨r₁.get hz₁,?_⟩
 refine Aa (Am hk) fun v hv hk=>?_
 refine Aa (Ad hk) fun xs hxs hk=>?_
 exact Mo a₁ (Td le hω) hz₁ (AP hv hl₁) hxs hk fun s' sm' R' r' le' hk'=>hq _ _ R' _ s' (le.trans le') (sm.trans sm') hk' r' (.v .none)
theorem TN{k:Nat}(hn:S.names[k]? =some n)(hp:Ah y=true)(hl:(q.endLine==p.line)=true)(i:AE c C d S e y):AE c C d S (.apnd k e) (.Call (.Attribute (.Name n q') "append" q) [y] [] p):=by
 intro f A X R σ s K a h Ev Q xo hq
 refine Aa (Ad h) fun l hl' h=>?_
 refine AY (fun _ _ _=>rfl) (Da hp) (zC rfl) hl ?_
 refine Av a.r fun m led r=>?_
 refine A5 a.G a.NM r (by rw[a.names];exact hn) hl' fun rv hlr pl=>?_
 refine Aa (bG h) fun k hq1 h=>?_;subst hq1
 refine Aa hlr.Yk fun ad hq1 hω=>?_;subst hq1
 refine UP r hω ?_
 refine callWith_method1 (jf (i.go a h Ev _ xo fun l σ₁ R₁ rv s₁ le sm hk r₁ hl₁=>jI ?_) (Ab hp)) (Ab hp) (by rfl)
 refine Aa (Am hk) fun v hv hk=>?_
 refine Aa (Ad hk) fun xs hxs hk=>?_
 exact OM (a.up le sm r₁) (Td le hω) (AP hv hl₁) hxs hk fun s' sm' R' r' le' hk'=>hq _ _ R' _ s' (le.trans le') (sm.trans sm') hk' r' (.v .none)
theorem WZ{o:Option Val}{v:Val}{R₀:Rec}{s₀:Shared}(a:At c S d f A X R σ s)(hv:o=some v)(hk:K (.v v) σ)(le:R₀.le R)(sm:An s₀ s)(hq:Nx c f R₀ s₀ K Q):After c S d f A X o Q R σ s:=
 ⟨v,hv,a,fun R' rv s' le' sm' r' hv'=>hq (.v v) σ R' rv s' (le.trans le') (sm.trans sm') hk r' (.v hv')⟩
theorem Mp{o:P1}(hN:B7 c S n (fun |[x]=>Cb C.rx o x |_=>none))(hp:Ah x=true)(i:AE c C d S e x):AE c C d S (.p1 o e) (.Call (.Name n q) [x] [] p):=by
 intro f A X R σ s K a h Ev Q xo hq
 refine hN a _ _ _ _ Ev Q (Da hp) (jf (one i a h xo fun ra R₁ σ₁ s₁ xv v le sm at₁ hx hv hk=>jI ?_) (Ab hp))
 exact⟨R₁,σ₁,[xv],.cons hx .nil,WZ at₁ hv hk le sm hq⟩
theorem XD{o:P1}{g:PySem.Expr}(hN:Nh c S x (.Call g xs [] p) (Cb C.rx o))(i:AE c C d S e x):AE c C d S (.p1 o e) (.Call g xs [] p):=by
 intro f A X R σ s K a h Ev Q xo hq
 refine hN a Ev Q (one i a h xo fun ra R₁ σ₁ s₁ xv v le sm at₁ hx hv hk=>?_)
 exact⟨R₁,σ₁,xv,hx,WZ at₁ hv hk le sm hq⟩
theorem Xz{o:P2}(hN:B7 c S n (fun |[x,y]=>Bu C.rx o x y |_=>none))(hp:Ah x=true)(hp':Ah y=true)(i:AE c C d S e x)(j:AE c C d S e' y):AE c C d S (.p2 o e e') (.Call (.Name n q) [x,y] [] p):=by
 intro f A X R σ s K a h Ev Q xo hq
 refine hN a _ _ _ _ Ev Q (Ip hp hp') (jf (zW (two i j a h xo fun ra rb R₂ σ₂ s₂ xv yv v le sm at₂ hx hy hv hk=>?_) (fun ra s₁ h₁=>jf (zW h₁ (fun rb s₂ h₂=>jI h₂) fun _ _ x=>x) (Ab hp')) fun _ _ x=>x) (Ab hp))
 exact⟨R₂,σ₂,[xv,yv],.cons hx (.cons hy .nil),WZ at₂ hv hk le sm hq⟩
theorem XA{o:P3}(hN:B7 c S n (fun |[x,y,z]=>Eu C.rx o x y z |_=>none))(hp:Ah x=true)(hp':Ah y=true)(hp'':Ah z=true)(i:AE c C d S e x)(j:AE c C d S e' y)(k:AE c C d S e'' z):
  AE c C d S (.p3 o e e' e'') (.Call (.Name n q) [x,y,z] [] p):=by
 intro f A X R σ s K a h Ev Q xo hq
 refine hN a _ _ _ _ Ev Q (FP hp hp' hp'') (jf (i.go a h Ev _ xo fun la σ₁ R₁ ra s₁ le sm hk r hla=>?_) (Ab hp))
 have a₁:=a.up le sm r
 refine jf (j.go a₁ hk Ev _ (xo.up le sm) fun lb σ₂ R₂ rb s₂ le₂ sm₂ hk r₂ hlb=>?_) (Ab hp')
 have a₂:=a₁.up le₂ sm₂ r₂
 refine jf (k.go a₂ hk Ev _ ((xo.up le sm).up le₂ sm₂) fun lc σ₃ R₃ rc s₃ le₃ sm₃ hk r₃ hlc=>jI ?_) (Ab hp'')
 have a₃:=a₂.up le₃ sm₃ r₃
 refine Aa (Ad hk) fun xv hx hk=>?_
 refine Aa (Ad hk) fun yv hy hk=>?_
 refine Aa (Ad hk) fun zv hz hk=>?_
 refine Aa (Ad hk) fun v hv hk=>?_
 refine Av r₃ fun m led r0=>?_
 exact⟨R₃,σ₃,[xv,yv,zv],.cons (Bi r0 hx ((hla.up le₂).up le₃)) (.cons (Bi r0 hy (hlb.up le₃)) (.cons (Bi r0 hz hlc) .nil)),WZ a₃ hv hk ((le.trans le₂).trans le₃) ((sm.trans sm₂).trans sm₃) hq⟩
theorem QI{o:P1}{dom:Val→Bool}(hda:∀x,dom x=true→isAtom x=true)(hd:∀x v,Cb C.rx o x=some v→dom x=true)(hM:B6 c S n dom (fun |x,[]=>Cb C.rx o x |_,_=>none))(hb:Cs x)(hl:(q.endLine==p.line)=true)(i:AE c C d S e x):
  AE c C d S (.p1 o e) (.Call (.Attribute x n q) [] [] p):=by
 intro f A X R σ s K a h Ev Q xo hq
 refine hM a _ _ _ _ Ev Q hb rfl (zC rfl) hl (one i a h xo fun ra R₁ σ₁ s₁ xv v le sm at₁ hx hv hk=>?_)
 have hat:=hd xv v hv
 exact⟨R₁,σ₁,xv,at₁,hx.atom (hda _ hat),hat,jI ⟨R₁,σ₁,[],.refl _,.nil,WZ at₁ hv hk le sm hq⟩⟩
theorem Xx{o:P3}(hM:B6 c S n Cj (fun |x,[y,z]=>Eu C.rx o x y z |_,_=>none))(hb:Cs x)(hl:(q.endLine==p.line)=true)(hp:Ah y=true)(hp':Ah z=true)(i:AE c C d S e x)(j:AE c C d S e' y)(k:AE c C d S e'' z):
  AE c C d S (.m3 o e e' e'') (.Call (.Attribute x n q) [y,z] [] p):=by
 intro f A X R σ s K a h Ev Q xo hq
 refine hM a _ _ _ _ Ev Q hb (Ip hp hp') (zC rfl) hl (i.go a h Ev _ xo fun l σ₁ R₁ rv s₁ le sm hk r hlr=>?_)
 refine Aa (Am hk) fun xv hx hk=>?_
 refine Aw (Bm hk) fun hat hk=>?_
 have a₁:=a.up le sm r
 refine⟨R₁,σ₁,xv,a₁,AP hx hlr,hat,jf (j.go a₁ hk Ev _ (xo.up le sm) fun lb σ₂ R₂ rb s₂ le₂ sm₂ hk r₂ hlb=>?_) (Ab hp)⟩
 refine Aa (Am hk) fun yv hy hk=>?_
 have a₂:=a₁.up le₂ sm₂ r₂
 refine jf (k.go a₂ hk Ev _ ((xo.up le sm).up le₂ sm₂) fun lc σ₃ R₃ rc s₃ le₃ sm₃ hk r₃ hlc=>jI ?_) (Ab hp')
 refine Aa (Am hk) fun zv hz hk=>?_
 refine Aa (Ad hk) fun v hv hk=>?_
 exact⟨R₃,σ₃,[yv,zv],le₂.trans le₃,.cons (V.up le₃ (AP hy hlb)) (.cons (AP hz hlc) .nil),WZ (a₂.up le₃ sm₃ r₃) hv hk ((le.trans le₂).trans le₃) ((sm.trans sm₂).trans sm₃) hq⟩
theorem Xy{o:P4}(hM:B6 c S n Cj (fun |x,[y,z,w]=>Pm o x y z w |_,_=>none))(hb:Cs x)(hl:(q.endLine==p.line)=true)(hp:Ah y=true)(hp':Ah z=true)(hp'':Ah w=true)
  (i:AE c C d S e x) (j:AE c C d S e' y) (k:AE c C d S e'' z) (g:AE c C d S e3 w):AE c C d S (.p4 o e e' e'' e3) (.Call (.Attribute x n q) [y,z,w] [] p):=by
 intro f A X R σ s K a h Ev Q xo hq
 refine hM a _ _ _ _ Ev Q hb (FP hp hp' hp'') (zC rfl) hl (i.go a h Ev _ xo fun l σ₁ R₁ rv s₁ le sm hk r hlr=>?_)
 refine Aa (Am hk) fun xv hx hk=>?_
 refine Aw (Bm hk) fun hat hk=>?_
 have a₁:=a.up le sm r
 refine⟨R₁,σ₁,xv,a₁,AP hx hlr,hat,jf (j.go a₁ hk Ev _ (xo.up le sm) fun lb σ₂ R₂ rb s₂ le₂ sm₂ hk r₂ hlb=>?_) (Ab hp)⟩
 refine Aa (Am hk) fun yv hy hk=>?_
 have a₂:=a₁.up le₂ sm₂ r₂
 refine jf (k.go a₂ hk Ev _ ((xo.up le sm).up le₂ sm₂) fun lc σ₃ R₃ rc s₃ le₃ sm₃ hk r₃ hlc=>?_) (Ab hp')
 refine Aa (Am hk) fun zv hz hk=>?_
 have a₃:=a₂.up le₃ sm₃ r₃
 refine jf (g.go a₃ hk Ev _ (((xo.up le sm).up le₂ sm₂).up le₃ sm₃) fun ld σ₄ R₄ rd s₄ le₄ sm₄ hk r₄ hld=>jI ?_) (Ab hp'')
 refine Aa (Am hk) fun wv hw hk=>?_
 refine Aa (Ad hk) fun v hv hk=>?_
 exact⟨R₄,σ₄,[yv,zv,wv],(le₂.trans le₃).trans le₄,.cons (V.up (le₃.trans le₄) (AP hy hlb)) (.cons (V.up le₄ (AP hz hlc)) (.cons (AP hw hld) .nil)),WZ (a₃.up le₄ sm₄ r₄) hv hk (((le.trans le₂).trans le₃).trans le₄) (((sm.trans sm₂).trans sm₃).trans sm₄) hq⟩
theorem U9{rx:Rx}{x v:Val}{u t:Txt}(h:Eu rx .replace x (.str u) (.str t)=some v):∃tx o u',x=.str tx∧u=o::u'∧t.length≤u'.length+1∧tx.length≤1000000∧v=.str (AF (o::u') t 0 tx):=
 Aa (bS h) fun tx e h=>by
  induction u using zo with
  |nil=>exact nz h
  |cons o u'=>exact⟨tx,o,u',e,rfl,Cn (Ac (AO h).1).1,Cn (Ac (AO h).1).2,(AO h).2.symm⟩
theorem XE{u v:Txt}{k k':Nat}{r r':Pos}(hm:S.Af=true)(hb:Cs x)(hl:(q.endLine==p.line)=true)(hne:Bo u v=false)(hy:v.length≤1)(i:AE c C d S e x):
  AE c C d S (.m3 .replace e (.lit (.str u)) (.lit (.str v))) (.Call (.Attribute x "replace" q) [.Constant (.str ⟨u.toArray⟩) k r,.Constant (.str ⟨v.toArray⟩) k' r'] [] p):=by
 intro f A X R σ s K a h Ev Q xo hq
 refine AY hb rfl (zC rfl) hl (i.go a h Ev _ xo fun l σ₁ R₁ rv s₁ le sm hk r hlr pl=>?_)
 refine Aa (Am hk) fun xv hxv hk=>?_
 refine Aw (Bm hk) fun _ hk=>?_
 refine Aa (Ad hk) fun w hv hk=>?_
 refine aa (U9 hv) fun tx o u' hq3 hq4 q1 q2 hq7=>?_;subst hq3;subst hq4;subst hq7
 have hV:VH c R₁ s₁.heap (.str tx) rv:=.of (AP hxv hlr)
 refine Aa hV.SR fun tk hq1 hlen=>?_;subst hq1
 have hpos:=(a.up le sm r).pos hm
 have hsz:tx.length+(tx.length+1)*v.length≤AJ:=by
  have h1:(tx.length+1)*v.length≤(tx.length+1)*1:=Nat.mul_le_mul_left _ hy
  have:=Bk
  lia
 refine Sl (Si ?_)
 have smt:An s₁ {s₁ with heap:=s₁.heap,toks:=s₁.toks+1+1}:=Al (zp (zP _) (zP _))
 exact(Pj (s:={s₁ with heap:=s₁.heap,toks:=s₁.toks+1+1}) (σ:=σ₁) r hlen q1 hne (Nat.ne_of_gt hpos) (jL _) (j5 (zS _)) hsz).to hk le (sm.trans smt) hq
end
end
section
set_option maxHeartbeats 4000000
section
variable {c:Cx}{C:Cfg}{S:Sx}{d:Nat}{f:Fx}{A:Around}{X:AN→St→Prop}{R R':Rec}{σ σ':St}{s s':Shared}{m:Str→Option Value}{led:List (Addr×Obj)}{K:LV→St→Prop}{Ev:Value→Shared→Prop}{Q:Value→Shared→Prop}
variable {e e' e'' e3:E}{x y z w:PySem.Expr}{es:Es}{xs:List PySem.Expr}{p q q':Pos}{n:Str}
theorem Co{h₀:Heap}{g:Value}{first:List Value}{pos:Pos}(X₀:c.K.In h₀)(hk:keepIn c.K g=true)(hp:xs.all Ah=true)
  (h:wpAny (model c.prog c.w) A (spliced (backTo pos (starEach xs f.env))) (fun vs s₁=>c.K.In s₁.heap∧wpAny (model c.prog c.w) A (call g (first++vs)) Q Ev s₁) Ev s):wpAny (model c.prog c.w) A (callWith pos g first (backTo pos (starEach xs f.env)) []) Q Ev s:=by
 induction xs using zo with
 |nil=>exact fun Γ p hΓ=>callWith_K0 (h Γ p hΓ).1 hk (h Γ p hΓ).2 Γ p hΓ
 |cons x xs=>exact callWith_K X₀ hk h (Ab (Ac hp).1) (AR (Ac hp).2)
theorem At.In(a:At c S d f A X R σ s):c.K.In s.heap:=by
 refine Av a.r fun m led r0=>?_
 exact a.G.X.keeps r0.F.keep
theorem aW(hm:S.Af=false)(HC:AM c C d c.mth){k:Nat}(hf:kH c S n k)(hp:xs.all Ah=true)(i:V8 c C d S es xs):AE c C d S (.fcall k es) (.Call (.Name n q) xs [] p):=by
 intro f A X R σ s K a h Ev Q xo hq
 refine BZ hf.at_ fun ad h1 h2 h3=>?_
 rw[AI]
 refine zj (GE a h2 (Co a.G.X h3 hp (i.go hp a h Ev _ xo fun vs σ₁ R₁ rvs s₁ le sm hk r hvs _=>?_)))
 have a₁:=a.up le sm r
 exact⟨a₁.In,QF hm hf.mth HC a₁ hvs hk h1 (xo.up le sm) (Nx.up hq le sm)⟩
theorem aY(hm:S.Af=true)(hk:S.cs.names.lookup c.self=some .local)(hd:(c.self==("__debug__":Str))=false)(HC:AM c C d c.mth){k:Nat}(hf:PP c n k)(hl:(q.endLine==p.line)=true):AE c C d S (.scall k .nil) (.Call (.Attribute (.Name c.self q') n q) [] [] p):=by
 intro f A X R σ s K a h Ev Q xo hq
 refine L7 hf.at_ fun ad h1 h2 h3 h4=>?_
 refine Av (NJ a hm) fun x dx hsd=>?_
 refine AY (fun _ _ _=>rfl) rfl (zC rfl) hl (E0 a hsd hk hd fun pl=>?_)
 refine Av a.r fun m led r0=>?_
 refine Aq (My r0 hsd) fun es n y1 y2 I=>?_
 exact method_inst r0.F a.G.X I hf.get h2 h3 (y2.2.1 _ hf.no) (callWith_K0 (a.G.X.keeps r0.F.keep) h4 (QK hf.mth HC a hsd .nil h h1 hq))
theorem iZ{ov:Val}{P:Nat→Prop}(h:match ov with | .obj d=>P d |_=>False):∃j,ov=.obj j∧P j:=by
 induction ov using Val.casesOn with
 |obj j=>exact⟨j,rfl,h⟩
 |_=>exact h.elim
theorem XY{o:Option Cell}{P:List (Option Val)→Prop}(h:match o with |some (.Ao fs)=>P fs |_=>False):∃fs,o=some (.Ao fs)∧P fs:=by
 induction o using zh with
 |none=>exact h.elim
 |some cell=>induction cell using Cell.casesOn with
  |Ao fs=>exact⟨fs,rfl,h⟩
  |_=>exact h.elim
theorem OX{h:List Cell}{j:Nat}(e:Ra h j=true):∃fs,h[j]? =some (.Ao fs):=by
 obtain⟨fs,h,_⟩:=XY (o:=h[j]?) (P:=fun _=>True) (by
  unfold Ra at e
  induction q:h[j]? using zh with
  |none=>rw[q]at e;exact ft e
  |some cell=>induction cell using Cell.casesOn with
   |Ao fs=>trivial
   |_=>rw[q]at e;exact ft e)
 exact⟨fs,h⟩
theorem VR.UL{j:Nat}{v:Value}(h:c.V R (.obj j) v):∃x dx,v=.ref x∧c.Z R x (instObj c.PC dx)∧R.ρ[j]? =some dx:=by cases h with |obj z hd=>exact⟨_,_,rfl,z,hd⟩
theorem kT{P:Nat→Prop}{j:Nat}(h:BP (Ax σ.loc j) (fun l=>Bp (fun ov σ=>match ov with | .obj d=>P d |_=>False) l σ)):∃l d,Ax σ.loc j=some l∧val? l=some (.obj d)∧P d:=by
 refine Aa (Ad h) fun l hl h=>?_
 refine Aa (Am h) fun ov hov h=>?_
 refine Aa (iZ h) fun d hq1 h=>?_;subst hq1
 exact⟨l,d,hl,hov,h⟩
theorem aX(hm:S.Af=false)(HC:AM c C d c.mth){k j:Nat}{nj:Str}(hj:S.names[j]? =some nj)(hf:PP c n k)(hl:(q.endLine==p.line)=true)(hn:xs.length < 25)(hp:xs.all Ah=true)(i:V8 c C d S es xs):
  AE c C d S (.mcall k j es) (.Call (.Attribute (.Name nj q') n q) xs [] p):=by
 intro f A X R σ s K a h Ev Q xo hq
 refine Aq (kT h) fun l t hl' hov h=>?_
 refine L7 hf.at_ fun ad h1 h2 h3 h4=>?_
 refine Aw (Bm h) fun hfl h=>?_
 refine Av a.r fun m led r0=>?_
 refine AY (fun _ _ _=>rfl) hp hn hl (A5 a.G a.NM r0 (by rw[a.names];exact hj) hl' fun rv hlr pl=>?_)
 have hV:=AP hov hlr
 refine zg (OX hfl) fun fs HD=>?_
 refine Aq (VR.UL hV) fun x dx hq2 z hd=>?_;subst hq2
 refine Hn (r0.Ao HD) fun dx' es' n' z0 z1 z2=>?_
 rw[hd]at z0;cases z0
 have I:InstAt s.heap x (instObj c.PC dx) c.PC (some (dictOf es' n')):=⟨r0.get z,rfl,rfl,r0.BE z1⟩
 refine method_inst r0.F a.G.X I hf.get h2 h3 (z2.2.1 _ hf.no) (Co a.G.X h4 hp (i.go hp a h Ev _ xo fun vs σ₁ R₁ rvs s₁ le sm hk r hvs _=>?_))
 have a₁:=a.up le sm r
 refine Aa (XY hk) fun fs₁ q hk=>?_
 exact⟨a₁.In,QH hm hf.mth HC a₁ q (V.up le hV) hvs hk h1 (Nx.up hq le sm)⟩
end
noncomputable def Dn(n m:Str):Bool:=Bo n.cps.toList m.cps.toList
theorem Kv{a b:Txt}(h:Bo a b=true):a=b:=zX ((Gm a b).symm.trans h)
theorem UE{n m:Str}(h:Dn n m=true):n=m:=by
 obtain⟨a⟩:=n;obtain⟨b⟩:=m
 exact zy Str.mk (Array.toList_inj.mp (Kv h))
noncomputable def Bn:List Str→Str→Bool
 |[],_=>false
 |x::r,n=>Dn x n || Bn r n
theorem Bc:∀{l:List Str} {n:Str},Bn l n=true→n∈l
 |[],_,h=>ft h
 |x::r,n,h=>by
  rcases Bool.or_eq_true_iff.mp h with h |h
  ·rw[UE h];exact .head _
  ·exact .tail _ (Bc h)
mutual
noncomputable def vEq:Val→Val→Bool
 | .bool a,y=>(match y with | .bool b=>cond a b (!b) |_=>false)
 | .int a,y=>(match y with | .int b=>FJ a b |_=>false)
 | .str a,y=>(match y with | .str b=>Bo a b |_=>false)
 | .seq t a,y=>(match y with | .seq u b=>cond t u (!u) && Z3 a b |_=>false)
 |_,_=>false
noncomputable def Z3:List Val→List Val→Bool
 |[],y=>(match y with |[]=>true |_=>false)
 |x::a,y=>(match y with |z::b=>vEq x z && Z3 a b |_=>false)
end
theorem Mn{a b:Int}(h:FJ a b=true):a=b:=zX ((Ek a b).symm.trans h)
theorem I0{t u:Bool}(h:cond t u (!u)=true):t=u:=by induction t using za <;>induction u using za <;>first |rfl |exact ft h
theorem Z2:∀a b:Val,vEq a b=true→a=b:=by
 refine@Val.rec (fun a=>∀b,vEq a b=true→a=b) (fun a=>∀b,Z3 a b=true→a=b) ?_ ?_ ?_ ?_ ?_ ?_ ?_ ?_ ?_ ?_ ?_ ?_
 ·exact fun _ h=>ft h
 ·intro t b h
  induction b using Val.casesOn with
  |bool u=>rw[I0 h]
  |_=>exact ft h
 ·intro i b h
  induction b using Val.casesOn with
  |int j=>rw[Mn h]
  |_=>exact ft h
 ·intro i b h
  induction b using Val.casesOn with
  |str j=>rw[Kv h]
  |_=>exact ft h
 ·intro t xs ih b h
  induction b using Val.casesOn with
  |seq u ys=>
   have h:=Ac h
   rw[I0 h.1,ih _ h.2]
  |_=>exact ft h
 ·exact fun _ _ h=>ft h
 ·exact fun _ _ _ h=>ft h
 ·exact fun _ _ h=>ft h
 ·exact fun _ _ h=>ft h
 ·exact fun _ _ h=>ft h
 ·intro b h
  induction b using zo with
  |nil=>rfl
  |cons _ _=>exact ft h
 ·intro x xs i1 i2 b h
  induction b using zo with
  |nil=>exact ft h
  |cons z b=>
   have h:=Ac h
   rw[i1 _ h.1,i2 _ h.2]
noncomputable def Xj:Val→Bool
 | .none=>true
 | .bool _=>true
 | .int _=>true
 | .str x=>Nat.ble x.length AJ
 |_=>false
noncomputable def mO(T:Tb)(o:P1)(a:E):Bool:=match o with
 | .neg=>true
 | .isnone=>true
 | .notnone=>true
 | .mstart=>Dk a
 | .mspan=>Dk a
 | .squeeze=>Bn T.gls (g1 .squeeze) && Dk a
 |o=>Bn T.gls (g1 o)
noncomputable def i4(T:Tb)(o:P2):Bool:=match Gy o,HW o with
 |some _,_=>true
 |none,some _=>true
 |none,none=>match o with
  | .idx=>true
  |o=>Bn T.gls (g2 o)
noncomputable def mP(T:Tb)(o:P3)(a:E):Bool:=match o with
 | .slc=>true
 | .find=>false
 | .replace=>false
 |o=>Bn T.gls (g3 o)
noncomputable def Lp :E→Option Txt
 | .lit (.str x)=>some x
 |_=>none
noncomputable def i5(T:Tb)(a b e:E):Bool:=match Lp b,Lp e with
 |some u,some v=>T.Af && (Dk a && (!(Bo u v) && Nat.ble v.length 1))
 |_,_=>false
noncomputable def bm:P3→Bool
 | .find=>true
 |_=>false
noncomputable def bo:P3→Bool
 | .replace=>true
 |_=>false
noncomputable def Mz:Val→Bool
 | .mt _ _=>true
 |_=>false
noncomputable def O3 :E→Option Nat
 | .loc k=>some k
 |_=>none
noncomputable def UD :E→Option Int
 | .p1 .neg (.lit (.int i))=>some i
 |_=>none
noncomputable def SG :E→Option (Nat×Int)
 | .p3 .slc a b c=>(match O3 a,UD b,GH c with |some k,some i,true=>some (k,i) |_,_,_=>none)
 |_=>none
noncomputable def RO(T:Tb)(a:E):Bool:=match O3 a,SG a with
 |some k,_=>Nat.blt k T.names.length
 |none,some p=>Nat.blt p.1 T.names.length
 |none,none=>false
section
variable (T:Tb)
mutual
noncomputable def CF:E→Bool
 | .lit v=>Xj v
 | .glob i v=>(match T.gl[i]? with |some g=>vEq g.2 v && Bn T.gls (Aj (T.gl.map (·.1)) i) |none=>false)
 | .loc i=>Nat.blt i T.names.length
 | .sat i=>T.Af && Nat.blt i T.attrs.length
 | .p1 o a=>mO T o a && CF a
 | .p2 o a b=>i4 T o && (CF a && CF b)
 | .p3 o a b e=>mP T o a && (CF a && (CF b && CF e))
 | .p4 _ a b e g=>Dk a && (CF a && (CF b && (CF e && CF g)))
 | .m3 o a b e=>cond (bm o) (Dk a && (CF a && (CF b && CF e))) (bo o && (i5 T a b e && CF a))
 | .bl _ es=>Nat.blt 0 (Lo es) && Lz es
 | .not_ a=>CF a
 | .seq _ es=>Nat.ble (Lo es) AJ && Lz es
 | .nlst es=>Nat.ble (Lo es) AJ && Lz es
 | .app a=>Wq a && CF a
 | .push f x=>Nat.blt f T.names.length && CF x
 | .apnd f x=>Nat.blt f T.names.length && CF x
 | .fcall f es=>(!T.Af && ((Nat.ble T.mtn f && Nat.blt f T.C2.length) && Bn T.gls (Aj T.C2 f))) && Lz es
 | .scall f es=>(T.Af && Nat.blt f T.mtn) && isNil es
 | .mcall f j es=>(!T.Af && (Nat.blt f T.mtn && (Nat.blt j T.names.length && Nat.blt (Lo es) 25))) && Lz es
 | .new es=>(!T.Af && Bn T.gls T.cls) && (Nat.blt 0 (Lo es) && Lz es)
 | .icall f x=>Nat.blt f T.names.length && CF x
 | .wal i x=>Nat.blt i T.names.length && CF x
 | .ntp=>true
 | .rvt a=>CF a
 | .tapp a x=>Dk a && (CF a && CF x)
 | .fld j i=> !T.Af && (Nat.blt j T.names.length && Nat.blt i T.attrs.length)
 | .comp q a j=>Nat.ble q 2 && ((Nat.blt j T.names.length && cond (Nat.beq q 0) true (Bn T.cells (Aj T.names j) && (!(Dn (Aj T.names j) (CD q)) && !(Dn (Aj T.names j) ".0")))) && RO T a)
 | .lidx a x=>Dk a && (CF a && CF x)
 | .isnt i j=>Nat.blt i T.names.length && Nat.blt j T.names.length
noncomputable def Lz:Es→Bool
 | .nil=>true
 | .cons e es=>CF e && Lz es
end
end
end
section
set_option maxHeartbeats 4000000
section
variable {c:Cx}{C:Cfg}{S:Sx}{d:Nat}{f:Fx}{A:Around}{X:AN→St→Prop}{R R':Rec}{σ σ':St}{s s':Shared}{m:Str→Option Value}{led:List (Addr×Obj)}{K:LV→St→Prop}{Ev:Value→Shared→Prop}{Q:Value→Shared→Prop}
variable {e e' e'' e3:E}{x y z w:PySem.Expr}{es:Es}{xs:List PySem.Expr}{p q q' p1 p2 p3 p4 p5 p6:Pos}{n:Str}
theorem H7{x:PySem.Expr}{env:Env}(h:Dm x=false):∀v,foldedSetIterable x env v=pure v:=by
 intro v
 cases x <;>first |rfl |exact Bool.noConfusion h
theorem MB{v:Val}{F:List Val→Prop}(h:match v with | .seq false xs=>F xs |_=>False):∃xs,v=.seq false xs∧F xs:=by
 induction v using Val.casesOn with
 |seq t xs=>induction t using za with
  |true=>exact h.elim
  |false=>exact⟨xs,rfl,h⟩
 |_=>exact h.elim
theorem SZ{o:Option Cell}{P:List Val→Prop}(h:match o with |some (.Ak xs)=>P xs |_=>False):∃xs,o=some (.Ak xs)∧P xs:=by
 induction o using zh with
 |none=>exact h.elim
 |some cell=>induction cell using Cell.casesOn with
  |Ak xs=>exact⟨xs,rfl,h⟩
  |_=>exact h.elim
theorem Ie{h:List Cell}{j:Nat}(e:Lf h j=true):∃xs,h[j]? =some (.Ak xs):=by
 obtain⟨fs,h,_⟩:=SZ (o:=h[j]?) (P:=fun _=>True) (by
  unfold Lf at e
  induction q:h[j]? using zh with
  |none=>rw[q]at e;exact ft e
  |some cell=>induction cell using Cell.casesOn with
   |Ak xs=>trivial
   |_=>rw[q]at e;exact ft e)
 exact⟨fs,h⟩
theorem VR.af{j:Nat}{v:Value}(h:c.V R (.hl j) v):∃a,v=.ref a∧R.ρ[j]? =some a:=h.inv
theorem AU.reverse{PC:Addr}{Z:Addr→Obj→Prop}{ρ:List Addr}{xs:List Val}:∀{vs:List Value},AU PC Z ρ xs vs→AU PC Z ρ xs.reverse vs.reverse:=by
 induction xs with
 |nil=>intro vs h;rw[AU.C7 h];exact .nil
 |cons x xs ih=>intro vs h;refine Aq (AU.A9 h) fun v ws e a b=>?_;rw[e,List.reverse_cons,List.reverse_cons];exact(ih b).append (.cons a .nil)
theorem i8(r0:Rel c f R σ s.heap m led){xs:List Val}{rv:Value}{tk:Tok}{value:PySem.Expr}{st:Option PySem.Expr}(hx:VH c R s.heap (.seq false xs) rv)
  (hq:∀R' ad s',R.le R'→An s s'→Ap c f R' (σ.BA (σ.heap++[.Ak xs.reverse])) s'.heap→R'.ρ[σ.heap.length]? =some ad→Q (.ref ad) s'):
  wpAny (model c.prog c.w) A (subscriptTail value (.Slice none none st p) rv (.ref s.heap.objs.size)) Q Ev {s with heap:=s.heap.push {cls:=.type "slice",data:=.fields #[.none,.none,.int (-1) tk]}}:=by
 refine AD (hx.seq r0) fun l vs n hq3 hg hl hs=>?_;subst hq3
 have hsz:vs.toArray.size=xs.length:=hs.length
 refine Cc (Heap.IsList.typeIs (s:={s with heap:=s.heap.push {cls:=.type "slice",data:=.fields #[.none,.none,.int (-1) tk]}}) ((Ai hg).push _)) list_getitem_lookup (wpAny_getItem_list_slice ((Ai hg).push _) (Heap.IsSliceOf.new ..) .none .none (.int _ _) (by decide) ?_ (by rw[hsz,←A6];exact hl))
 have N1:=News.push (r0.F.push {cls:=.type "slice",data:=.fields #[.none,.none,.int (-1) tk]}) (r0.N.grown fun _ _ e=>z6 _ e) {cls:=.type "list",data:=.seq (slicePick vs.toArray none none (some (-1)))}
 rw[Heap.size_push]at N1
 show Q (.ref (s.heap.push _).objs.size) _
 rw[Heap.size_push]
 have F:=(r0.F.push {cls:=.type "slice",data:=.fields #[.none,.none,.int (-1) tk]}).push {cls:=.type "list",data:=.seq (slicePick vs.toArray none none (some (-1)))}
 rw[krv_pick]at N1 F ⊢
 refine BZ (r0.Om F N1 (fun p hp=>jF (jD (r0.N p hp).1)) hs.reverse (by rw[List.length_reverse];exact hl)) fun R' le' r' hz=>?_
 exact hq R' _ _ le' AK ⟨_,_,r'⟩ hz
theorem XF(i:AE c C d S e x):AE c C d S (.rvt e) (.Subscript x (.Slice none none (some (.UnaryOp .USub (.Constant (.int 1) 0 p1) p2)) q) p):=by
 intro f A X R σ s K a h Ev Q xo hq
 refine Subscript_ (i.go a h Ev _ xo fun l σ₁ R₁ rv s₁ le sm hk r hl=>?_)
 refine wpAny_Slice (wpAny_evalPart_none (wpAny_evalPart_none (wpAny_evalPart_some ?_)))
 refine wpAny_UnaryOp (wpAny_Constant_int (P.neg_int ?_))
 refine Aa (Ad hk) fun xv hx hk=>?_
 refine Aa (MB hk) fun xs hq1 hk=>?_;subst hq1
 refine Av r fun m led r0=>?_
 exact i8 (s:={s₁ with toks:=s₁.toks+1+1}) r0 (Bi r0 hx hl) fun R' ad s' le' sm' r' hz=>hq _ _ R' _ s' (le.trans le') ((sm.trans (Al (h':=s₁.heap) (zp (zP _) (zP _)))).trans sm') hk r' (.v (.hl hz))
theorem XC:AE c C d S .ntp (.List [] p):=by
 intro f A X R σ s K a h Ev Q xo hq
 refine List_ (jI ?_)
 refine Av a.r fun m led r0=>?_
 refine newList_K r0.F r0.N (fun l h' F N hf=>?_) (zY _)
 refine BZ (r0.Om (vs:=[]) (xs:=[]) F N hf .nil (zY _)) fun R' le r' hz=>?_
 exact hq _ _ R' _ _ le AK h ⟨_,_,r'⟩ (.v (.hl hz))
theorem TV(hb:Cs x)(hp:Ah y=true)(hl:(q.endLine==p.line)=true)(i:AE c C d S e x)(j:AE c C d S e' y):AE c C d S (.tapp e e') (.Call (.Attribute x "append" q) [y] [] p):=by
 intro f A X R σ s K a h Ev Q xo hq
 refine AY hb (Da hp) (zC rfl) hl (i.go a h Ev _ xo fun l σ₁ R₁ rv s₁ le sm hk r hlr pl=>?_)
 refine Aa (Am hk) fun t ht hk=>?_
 have hV:=AP ht hlr
 have a₁:=a.up le sm r
 induction t using Val.casesOn with
 |hl jj=>
  refine Aa hV.af fun ad hq1 hρ=>?_;subst hq1
  refine Aw (Bm hk) fun htp hk=>?_
  refine zg (Ie htp) fun ys hys=>?_
  refine Av r fun m led r0=>?_
  refine AD (r0.Ak hys) fun b vs n b1 b2 b3 b4=>?_
  have e0:=ze (hρ.symm.trans b1);rw[←e0]at b2
  refine listMethod_K r0.N b2 slot_list_append (by kernel_rfl) ?_
  refine callWith_method1 (jf (j.go a₁ hk Ev _ (xo.up le sm) fun l₂ σ₂ R₂ rv₂ s₂ le₂ sm₂ hk₂ r₂ hl₂=>jI ?_) (Ab hp)) (Ab hp) (by rfl)
  refine Aa (Am hk₂) fun v hv hk₂=>?_
  refine Aa (SZ hk₂) fun zs hzs hk₂=>?_
  refine Aw (Bm hk₂) fun hlt hk₂=>?_
  refine Av r₂ fun m₂ led₂ r₂=>?_
  refine AD (r₂.Ak hzs) fun b' us k b1' b2' b3' b4'=>?_
  have e0:=ze ((DY le₂.ρ hρ).symm.trans b1');rw[←e0]at b2' b1'
  have e:(us.toArray.push rv₂)=(us++[rv₂]).toArray:=List.push_toArray ..
  have hlt:=CC hlt
  refine append_K (n:=k) r₂.F r₂.N (news':=put ad (seqObj false (us++[rv₂]) (k+1)) led₂) ?_ (fun h' F N=>?_) (by rw[zL,b4'.length,←A6];exact b3')
  ·rw[e];exact Gp _ b2' r₂.nd
  ·exact hq _ _ R₂ _ _ (le.trans le₂) ((sm.trans sm₂).trans AK) hk₂ ⟨m₂,_,r₂.On hzs b1' F N (AU.append b4' (.cons (AP hv hl₂) .nil)) (by rw[zd];exact hlt)⟩ (.v .none)
 |_=>exact hk.elim
theorem GW:∀{fs:List (Option Val)} {k:Nat} {v:Val},Ax fs k=some v→Ax (B1 fs) k=some (.v v)
 |[],k,v,h=>by induction k using zz <;>cases h
 |none::r,0,v,h=>by cases h
 |some x::r,0,v,h=>by cases h;rfl
 |none::r,k+1,v,h=>GW (fs:=r) h
 |some x::r,k+1,v,h=>GW (fs:=r) h
theorem Xq(ok:Dy c){j k:Nat}{nj:Str}(hj:S.names[j]? =some nj)(hn:c.attrs[k]? =some n):AE c C d S (.fld j k) (.Attribute (.Name nj q) n p):=by
 intro f A X R σ s K a h Ev Q xo hq
 refine Aq (kT h) fun l t hl' hov h=>?_
 refine Aa (XY h) fun fs HD h=>?_
 refine Aa (Ad h) fun v hv h=>?_
 refine Av a.r fun m led r0=>?_
 refine Attribute_any_ (A5 a.G a.NM r0 (by rw[a.names];exact hj) hl' fun rv hlr=>?_) rfl
 refine Aq (VR.UL (AP hov hlr)) fun x dx hq2 z hd=>?_;subst hq2
 refine Hn (r0.Ao HD) fun dx' es' n' z0 z1 z2=>?_
 rw[hd]at z0;cases z0
 have I:InstAt s.heap x (instObj c.PC dx) c.PC (some (dictOf es' n')):=⟨r0.get z,rfl,rfl,r0.BE z1⟩
 have at_:=ok.attrs k n hn
 refine Aa at_.find fun attr f1 f2=>?_
 have:=z2.1 k n hn
 rw[GW hv]at this
 refine Aa this fun rv g1 g2=>?_
 exact get_own r0.F a.G.X I at_.get at_.dict f1 f2 g1 (handed g2) (hq _ σ R rv _ (.refl R) (Al (h':=s.heap) (zP _)) h ⟨m,led,r0⟩ g2)
theorem X9{c:Cx}{R:Rec}{x:Int}{xs:List Val}:∀{vs:List Value},c.Vs R xs vs→CJ x xs=some true→∃ns,IntsAre vs ns∧x∈ns∧ns.idxOf x=Ld x xs:=by
 induction xs with
 |nil=>intro vs hs e;exact nomatch e
 |cons w xs ih=>
  intro vs hs e
  refine Aq (Ib e) fun y k ey q eb=>?_
  refine Aq hs.A9 fun v ws ev h1 h2=>?_
  rw[ey]at h1 ⊢
  refine zg h1.HH fun t et=>?_
  rw[ev,et]
  show∃ns,_∧_∧_=cond (FJ y x) 0 (Ld x xs+1)
  rw[Ek]at eb ⊢
  by_cases hyx:y=x
  ·refine Aa (ints_in h2 q) fun ns n1 _=>?_
   refine⟨y::ns,.cons y t n1,by rw[hyx];exact .head _,?_⟩
   rw[ja hyx,hyx]
   exact List.idxOf_cons_self
  ·rw[zU hyx]at eb ⊢
   have eb:k=true:=eb
   rw[eb]at q
   refine BZ (ih h2 q) fun ns n1 n2 n3=>?_
   refine⟨y::ns,.cons y t n1,.tail _ n2,?_⟩
   rw[List.idxOf_cons,jd.mpr hyx,n3]
theorem Po{c:Cx}{R:Rec}{xs:List Val}:∀{vs:List Value} {ns:List Int},c.Vs R xs vs→IntsAre vs ns→Ex xs=true→ns.length=xs.length∧PyData.canLayAll0 (ns.map .int)=true∧PyData.depthAll (ns.map .int)=0∧PyData.weightAll (ns.map .int)≤26*ns.length:=by
 induction xs with
 |nil=>intro vs ns hs hi e;rw[hs.C7]at hi;cases hi;exact⟨rfl,rfl,rfl,zu _⟩
 |cons w xs ih=>
  intro vs ns hs hi e
  refine Aq hs.A9 fun v ws ev h1 h2=>?_
  rw[ev]at hi
  induction w using Val.casesOn with
  |int j=>
   refine zg h1.HH fun t et=>?_
   rw[et]at hi
   induction j using jV with
   |ofNat n=>
    have e:cond (Nat.blt n AJ) (Ex xs) false=true:=e
    have e:=condT e
    cases hi with
    |cons i0 t0 hi=>
     refine HO (ih h2 hi e.2) fun g1 g2 g3 g4=>?_
     refine⟨zy (· +1) g1,g2,?_,?_⟩
     ·show max 0 (PyData.depthAll _)=0
      rw[g3];rfl
     ·have hn:n < 2 ^ 24:=CC e.1
      have hw:PyData.weight (.int (Int.ofNat n))≤25:=by
       show(if(Int.ofNat n==0)=true then 0 else(Int.ofNat n).natAbs.log2+1)≤25
       split
       ·exact zY _
       ·have:(Int.ofNat n).natAbs.log2 < 25:=by
         by_cases h0:n=0
         ·subst h0;decide
         ·exact(Nat.log2_lt h0).mpr (Nat.lt_trans hn (by decide))
        exact this
      show PyData.weight (.int (Int.ofNat n))+1+PyData.weightAll _≤26*(_+1)
      lia
   |negSucc n=>exact ft e
  |_=>exact ft e
theorem O0{c:Cx}{R:Rec}{xs:List Val}{vs:List Value}{ns:List Int}(hs:c.Vs R xs vs)(hi:IntsAre vs ns)(h:Ex xs=true)(hl:xs.length≤1000):PyData.layable0 (.list (ns.map .int))=true:=by
 refine HO (Po hs hi h) fun g1 g2 g3 g4=>?_
 unfold PyData.layable0
 rw[jN,jN]
 refine⟨⟨g2,ja ?_⟩,ja ?_⟩
 ·show PyData.depthAll (ns.map .int)+1≤64
  rw[g3];decide
 ·show PyData.weightAll (ns.map .int)≤_
  lia
theorem bD{v:Val}{P:Int→Prop}(h:match v with | .int i=>P i |_=>False):∃i,v=.int i∧P i:=by
 induction v using Val.casesOn with
 |int i=>exact⟨i,rfl,h⟩
 |_=>exact h.elim
theorem TR(hb:Cs x)(hp:Ah y=true)(hl:(q.endLine==p.line)=true)(i:AE c C d S e x)(j:AE c C d S e' y):AE c C d S (.lidx e e') (.Call (.Attribute x "index" q) [y] [] p):=by
 intro f A X R σ s K a h Ev Q xo hq
 refine AY hb (Da hp) (zC rfl) hl (i.go a h Ev _ xo fun l σ₁ R₁ rv s₁ le sm hk r hlr pl=>?_)
 refine Aa (Am hk) fun t ht hk=>?_
 have hV:=AP ht hlr
 have a₁:=a.up le sm r
 induction t using Val.casesOn with
 |hl jj=>
  refine Aa hV.af fun ad hq1 hρ=>?_;subst hq1
  refine Aw (Bm hk) fun htp hk=>?_
  refine zg (Ie htp) fun ys hys=>?_
  refine Av r fun m led r0=>?_
  refine AD (r0.Ak hys) fun b vs n b1 b2 b3 b4=>?_
  have e0:=ze (hρ.symm.trans b1);rw[←e0]at b2
  refine listMethod_K r0.N b2 PySem.F.slot_list_index PySem.F.type_list_index ?_
  refine callWith_method1 (jf (j.go a₁ hk Ev _ (xo.up le sm) fun l₂ σ₂ R₂ rv₂ s₂ le₂ sm₂ hk₂ r₂ hl₂=>jI ?_) (Ab hp)) (Ab hp) (by rfl)
  refine Aa (Am hk₂) fun v hv hk₂=>?_
  refine Aa (SZ hk₂) fun zs hzs hk₂=>?_
  refine Aa (bD hk₂) fun i hq1 hk₂=>?_;subst hq1
  refine Aw (Bm hk₂) fun hsm hk₂=>?_
  refine Aa (Ad hk₂) fun b hb hk₂=>?_
  refine Aw (Bm hk₂) fun hbt hk₂=>?_
  rw[hbt]at hb
  refine zg (AP hv hl₂).HH fun tk hq1=>?_;subst hq1
  refine Av r₂ fun m₂ led₂ r₂=>?_
  refine AD (r₂.Ak hzs) fun b' us k b1' b2' b3' b4'=>?_
  have e0:=ze ((DY le₂.ρ hρ).symm.trans b1');rw[←e0]at b2' b1'
  refine BZ (X9 b4' hb) fun ns n1 n2 n3=>?_
  refine index_list_ints (Ai (Cl.of (r₂.BE b2'))) n1 (O0 b4' n1 (Ac hsm).2 (Cn (Ac hsm).1)) n2 ?_
  rw[n3]
  exact hq _ σ₂ R₂ _ _ (le.trans le₂) ((sm.trans sm₂).trans (Al (h':=s₂.heap) (zP _))) hk₂ ⟨m₂,led₂,r₂⟩ (.v (.int _ _))
 |_=>exact hk.elim
theorem kK{v:Val}{P:Nat→Prop}(h:match v with | .ad x=>P x |_=>False):∃x,v=.ad x∧P x:=by
 induction v using Val.casesOn with
 |ad x=>exact⟨x,rfl,h⟩
 |_=>exact h.elim
theorem Lg{i j:Nat}{ni nj:Str}(hi:S.names[i]? =some ni)(hj:S.names[j]? =some nj)(a:At c S d f A X R σ s){P:Prop}
  (h:BP (Ax σ.loc i) fun l=>BP (Ax σ.loc j) fun l'=>Bp (fun a σ=>Bp (fun b σ=>match a with | .ad x=>(match b with | .ad y=>Be (Nat.beq x y) P False |_=>False) |_=>False) l' σ) l σ) {Q:Value→Shared→Prop} (hq:P→Q (.bool false) s):
  wpAny (model c.prog c.w) A (eval (.Name ni p) f.env) (fun v s₁=>wpAny (model c.prog c.w) A (eval (.Name nj q) f.env) (fun u s₂=>wpAny (model c.prog c.w) A (compareOp .IsNot v u) Q Ev s₂) Ev s₁) Ev s:=by
 refine Aa (Ad h) fun l hl h=>?_
 refine Aa (Ad h) fun l' hl' h=>?_
 refine Aa (Am h) fun v hv h=>?_
 refine Aa (Am h) fun u hu h=>?_
 refine Aa (kK h) fun x hq1 h=>?_;subst hq1
 refine Aa (kK h) fun y hq1 h=>?_;subst hq1
 refine Aw (Bm h) fun e h=>?_
 have e:=zw e
 refine Av a.r fun m led r=>?_
 refine A5 a.G a.NM r (by rw[a.names];exact hi) hl fun rv hlr=>?_
 refine A5 a.G a.NM r (by rw[a.names];exact hj) hl' fun ru hlr'=>?_
 have e1:rv=.ref x:=(AP hv hlr).inv
 have e2:ru=.ref y:=(AP hu hlr').inv
 rw[e1,e2,e]
 exact wpAny_isNot_ref_self (hq h)
theorem TQ{i j:Nat}{ni nj:Str}(hi:S.names[i]? =some ni)(hj:S.names[j]? =some nj):AE c C d S (.isnt i j) (.Compare (.Name ni p) [.IsNot] [.Name nj q] p1):=fun _ _ _ _ σ _ K a h _ _ _ hq=>
 wpAny_Compare1 (Lg hi hj a (P:=K (.v (.bool false)) σ) h fun hk=>hq _ σ _ _ _ (.refl _) (.refl _) hk a.r (.v (.bool _))) rfl
theorem VT{i j:Nat}{ni nj:Str}(hi:S.names[i]? =some ni)(hj:S.names[j]? =some nj):Ej c C d S (.isnt i j) (.Compare (.Name ni p) [.IsNot] [.Name nj q] p1):=fun _ _ _ _ σ _ K a h _ _ _ hq=>
 wpAny_isTrue_Compare1 (Lg hi hj a (P:=Eg K (.v (.bool false)) σ) h fun hk=>D9 a (.v (.bool _)) hk fun b s' sm r hb=>hq b σ _ s' (.refl _) sm hb r) rfl
end
theorem ME{β γ:Type}{g:Str×β→Str×γ}{x:Str}{v:γ}(hg:∀p,(g p).1=p.1):∀{l:List (Str×β)} {u:β},(∀k,(k==x)=true→(g (k,u)).2=v)→l.lookup x=some u→(l.map g).lookup x=some v:=by
 intro l
 induction l with
 |nil=>exact fun _ h=>nomatch h
 |cons p r ih=>
  intro u hv h
  rw[zV]at h
  rw[JA,zV,hg]
  induction q:x==p.1 using za with
  |true=>
   rw[q]at h
   have e:p=(p.1,u):=by rw[←ze h]
   exact zy some ((zy (fun p=>(g p).2) e).trans (hv p.1 (by rw[eq_of_beq q,ju])))
  |false=>
   rw[q]at h
   exact ih hv h
theorem Ed{env:Env}(hk:env.scope.kind=.function){names:List (Str×NameKind)}{x:Str}(hc:env.kindOf x=some .cell)(h:names.lookup x=some .free):
  (names.map fun(n,k)=>if(k==NameKind.free && env.scope.kind==.function && env.kindOf n==some .cell)then(n,NameKind.cell)else(n,k)).lookup x=some .cell:=
 ME (fun p=>by show Prod.fst (ite _ _ _)=_;split <;>rfl) (fun k e=>by show Prod.snd (if(_ && _ && env.kindOf k==some .cell)=true then _ else _)=_;rw[eq_of_beq e,hk,hc];rfl) h
section
variable {c:Cx}{C:Cfg}{d:Nat}{S:Sx}{f:Fx}{R:Rec}{A:Around}{X:AN→St→Prop}{σ:St}{m:Str→Option Value}{led:List (Addr×Obj)}{h:Heap}
theorem UN{D:Addr}{l:List (Addr×Obj)}:LCg.Off1 D l→∀p∈l,p.1≠D:=by
 induction l with
 |nil=>exact fun _ p hp=>nomatch hp
 |cons q l ih=>exact fun h p hp=>(zI.mp hp).elim (fun e=>e▸h.1) (ih h.2 p)
theorem Zu(r:Rel c f R σ h m led){a:Addr}{vs:List Value}{nn:Nat}(hz:Hr (c.Z R) a false vs nn):LCg.SrcAt f.h₀ a vs.toArray led:=
 BZ hz fun o hz hc hd=>hz.elim (fun hz=>.inl ⟨o,r.B _ _ hz.1,hc,nn,hd⟩) fun hz=>.inr ⟨o,r.zs _ hz,hc,nn,hd⟩
theorem Zt(r:Rel c f R σ h m led){l:LV}{xs:List Val}{rv:Value}(hl:Cf σ l=some (.seq false xs))(y:LR c R l rv):∃a vs,rv=.ref a∧LCg.SrcAt f.h₀ a vs.toArray led∧xs.length≤AJ∧c.Vs R xs vs:=by
 induction l using LV.casesOn with
 |v x=>
  have y:c.V R x rv:=by cases y;assumption
  have hl:GO σ.heap x=some (.seq false xs):=hl
  induction x using Val.casesOn with
  |hl j=>
   have hl:(match σ.heap[j]? with |some (.Ak xs)=>some (Val.seq false xs) |_=>none)=some (.seq false xs):=hl
   refine Aa (VR.af y) fun a e ha=>?_
   induction q2:σ.heap[j]? using zh with
   |none=>rw[q2]at hl;exact nz hl
   |some ce=>induction ce using Cell.casesOn with
    |Ak ys=>
     rw[q2]at hl
     cases hl
     refine AD (r.Ak q2) fun b vs n b1 b2 b3 b4=>?_
     cases ha.symm.trans b1
     exact⟨a,vs,e,.inr ⟨_,b2,rfl,n,rfl⟩,b3,b4⟩
    |_=>rw[q2]at hl;exact nz hl
  |seq _ _=>
   cases hl
   refine AD y.inv fun a vs n e hz hlen hs=>?_
   exact⟨a,vs,e,Zu r hz,hlen,hs⟩
  |_=>exact nomatch (ze hl)
 |loc k=>
  refine Aa y.Yk fun a e hω=>?_
  have hl:(match(match Fk σ.own k with |some xs=>some (Val.seq false xs) |none=>none)with |some x=>GO σ.heap x |none=>none)=some (.seq false xs):=hl
  induction ho:Fk σ.own k using zh with
  |none=>rw[ho]at hl;exact nz hl
  |some ys=>
   rw[ho]at hl
   cases hl
   refine AD (r.owns k xs ho) fun b vs n b1 b2 b3 b4=>?_
   cases hω.symm.trans b1
   exact⟨a,vs,e,.inr ⟨_,b2,rfl,n,rfl⟩,b3,b4⟩
 |_=>exact nz hl
theorem K6{g:Val→Option (Option Val)}{x:Val}{r l:List Val}(h:Dw g (x::r)=some l):∃o l',g x=some o∧Dw g r=some l'∧l=o.toList++l':=
 Aa (Np h) fun o e h=>Aa (Np h) fun l' e' q=>⟨o,l',e,e',(ze q).symm⟩
theorem QW{g:Val→Option (Option Val)}{xs:List Val}:∀{l:List Val},Dw g xs=some l→l.length≤xs.length:=by
 induction xs with
 |nil=>exact fun h=>by rw[←ze h];exact zu _
 |cons x r ih=>
  intro l h
  refine Aq (K6 h) fun o l' _ e2 e3=>?_
  rw[e3]
  induction o using zh with
  |none=>exact z7 (ih e2)
  |some y=>exact z3 (ih e2)
noncomputable def HR(c:Cx)(f:Fx)(R:Rec)(A:Around)(m:Str→Option Value)(led:List (Addr×Obj))(vn:Str)(ct:PySem.Expr)(scope:Scope)(cl:List (Str×Addr))(g:Val→Option (Option Val)):Prop:=
 ∀(x:Val) (v:Value) (o:Option Val),c.V R x v→g x=some o→∀(s:Shared) (C':Addr) (m₂:Str→Option Value),s.heap.Ns C' m₂→m₂ vn=some v→Fr f.h₀ f.L s.heap m→News f.h₀ f.L s.heap led→
  ∀(E:Value→Shared→Prop) (Q:Bool→Shared→Prop),(∀tk,(∀o',Q o.isSome {s with heap:=s.heap.push o',toks:=tk})∧Q o.isSome {s with toks:=tk})→wpAny (model c.prog c.w) A (isTrue ct (compEnvC scope cl C' f.env) (eval ct (compEnvC scope cl C' f.env))) Q E s
noncomputable def KA(c:Cx)(f:Fx)(R:Rec)(A:Around)(m:Str→Option Value)(led:List (Addr×Obj))(vn:Str)(elt:PySem.Expr)(scope:Scope)(cl:List (Str×Addr))(g:Val→Option (Option Val)):Prop:=
 ∀(x:Val) (v:Value) (y:Val),c.V R x v→g x=some (some y)→∀(s:Shared) (C':Addr) (m₂:Str→Option Value),s.heap.Ns C' m₂→m₂ vn=some v→Fr f.h₀ f.L s.heap m→News f.h₀ f.L s.heap led→
  ∀(E:Value→Shared→Prop) (Q:Value→Shared→Prop),(∀yv tk,c.V R y yv→Q yv {s with toks:=tk})→wpAny (model c.prog c.w) A (eval elt (compEnvC scope cl C' f.env)) Q E s
theorem OK{ax:Addr}{its:Array Value}{vn:Str}{ct elt:PySem.Expr}{scope:Scope}{cl:List (Str×Addr)}{g:Val→Option (Option Val)}(ht:HR c f R A m led vn ct scope cl g)(hi:KA c f R A m led vn elt scope cl g)(hS:LCg.SrcAt f.h₀ ax its led){s:Shared}{Fin:List Value→List (Addr×Obj)→Prop}{all:List Val}
  (hF:∀yvs,c.Vs R all yvs→Fin yvs led) {xs:List Val}:∀{i:Nat} {ys zs:List Val} {yvs:List Value},(∀j v,xs[j]? =some v→∃rv,its[i+j]? =some rv∧c.V R v rv)→c.Vs R ys yvs→Dw g xs=some zs→all=ys++zs→
   LCt.CompRestT c.prog c.w A f.h₀ f.L m f.env ct elt vn scope cl s (LCg.SrcAt f.h₀ ax its) (fun i v=>its[i]? =some v) Fin xs.length i yvs led:=by
 induction xs with
 |nil=>
  intro i ys zs yvs hget hys hm ha
  have e:zs=[]:=(ze hm).symm
  rw[e,zE]at ha
  exact hF yvs (ha▸hys)
 |cons x xs ih=>
  intro i ys zs yvs hget hys hm ha v I oI C' oC D m₂ h tk E' hP hNs hmn F N off hne3
  refine Aa (hget 0 _ rfl) fun rv g1 g2=>?_
  refine Aq (K6 hm) fun o zs' e1 e2 e3=>?_
  have hv:v=rv:=ze (hP.symm.trans g1)
  rw[hv]at hmn
  have Nl:∀{h:Heap},News f.h₀ f.L h ((I,oI)::(C',oC)::(D,LCg.lst yvs)::led)→News f.h₀ f.L h led:=fun N p hp=>N p (.tail _ (.tail _ (.tail _ hp)))
  have nsC:∀{h:Heap},News f.h₀ f.L h ((I,oI)::(C',oC)::(D,LCg.lst yvs)::led)→h.Ns C' m₂:=fun N=>LCg.NsObj.ns hNs (N _ (.tail _ (.head _))).1
  have Ky:∀j v,xs[j]? =some v→∃rv,its[i+1+j]? =some rv∧c.V R v rv:=fun j v hj=>zg (hget (j+1) v hj) fun rv e=>⟨rv,(Nat.succ_add_eq_add_succ i j)▸e.1,e.2⟩
  have go:∀(h':Heap) (tk':Nat),Fr f.h₀ f.L h' m→News f.h₀ f.L h' ((I,oI)::(C',oC)::(D,LCg.lst yvs)::led)→(if o.isSome=true then
    wpAny (model c.prog c.w) A (eval elt (compEnvC scope cl C' f.env)) (LCg.CompEnd f.h₀ f.L m {s with heap:=h,toks:=tk} I oI C' oC D (LCg.lst yvs) (LCg.SrcAt f.h₀ ax its) (fun y news'=>LCt.CompRestT c.prog c.w A f.h₀ f.L m f.env ct elt vn scope cl s (LCg.SrcAt f.h₀ ax its) (fun i v=>its[i]? =some v) Fin xs.length (i+1) (yvs++[y]) news')) E' {s with heap:=h',toks:=tk'}
    else LCg.CompEnd f.h₀ f.L m {s with heap:=h,toks:=tk} I oI C' oC D (LCg.lst yvs) (LCg.SrcAt f.h₀ ax its) (fun _ news'=>LCt.CompRestT c.prog c.w A f.h₀ f.L m f.env ct elt vn scope cl s (LCg.SrcAt f.h₀ ax its) (fun i v=>its[i]? =some v) Fin xs.length (i+1) yvs news') Value.none {s with heap:=h',toks:=tk'}):=fun h' tk' F' N'=>by
   induction o using zh with
   |none=>
    rw[zR (show¬((none:Option Val).isSome=true)from fun h=>ft h)]
    exact LCg.CompEnd.intro (s₁:={s with heap:=h,toks:=tk}) F' N' led (fun p hp=>hp) off hS (ih Ky hys e2 (by rw[ha,e3];rfl))
   |some y=>
    rw[z5 (show(some y).isSome=true from rfl)]
    refine hi x rv y g2 e1 {s with heap:=h',toks:=tk'} C' m₂ (nsC N') hmn F' (Nl N') _ _ fun yv tk'' hy=>?_
    exact LCg.CompEnd.intro (s₁:={s with heap:=h,toks:=tk}) F' N' led (fun p hp=>hp) off hS (ih Ky (AU.append hys (.cons hy .nil)) e2 (by rw[ha,e3,zl];rfl))
  refine ht x rv o g2 e1 {s with heap:=h,toks:=tk} C' m₂ (nsC N) hmn F (Nl N) _ _ fun tk'=>⟨fun o'=>?_,?_⟩
  ·exact go (h.push o') tk' (F.push o') (N.grown fun _ _ e=>z6 _ e)
  ·exact go h tk' F N
noncomputable def Oy(c:Cx)(C:Cfg)(d:Nat)(S:Sx)(e:Ag.E)(x:PySem.Expr):Prop:=
 ∀(f:Fx) (A:Around) (X:AN→St→Prop) (R:Rec) (σ:St) (s:Shared) (P:List Val→St→Prop) (m:Str→Option Value) (led:List (Addr×Obj)),At c S d f A X R σ s→Rel c f R σ s.heap m led→B2 C X e (GN fun v σ=>match v with | .seq false xs=>P xs σ |_=>False) σ→∀(E Q:Value→Shared→Prop),
  (∀l xs R' rv s' led',R.le R'→An s s'→Cf σ l=some (.seq false xs)→P xs σ→Rel c f R' σ s'.heap m led'→LR c R' l rv→Q rv s')→wpAny (model c.prog c.w) A (eval x f.env) Q E s
variable {e:E}{x:PySem.Expr}{n vn:Str}{p p1 p2 p3 p4 p5 p6 q:Pos}{k:Nat}
theorem Vr(hn:S.names[k]? =some n):Oy c C d S (.loc k) (.Name n p):=by
 intro f A X R σ s P m led a r h E Q hq
 refine Aa (Ad h) fun l hl h=>?_
 refine Aa (Ad h) fun v hv h=>?_
 refine Aa (MB h) fun xs hq1 h=>?_
 rw[hq1]at hv
 exact A5 a.G a.NM r (by rw[a.names];exact hn) hl fun rv hlr=>hq l xs R rv s led (.refl _) (.refl _) hv h r hlr
theorem Vn{x v:Val}{i:Int}{ys:List Val}{h:List Cell}(e:Zp x (.int i) .none=some v)(e':GO h v=some (.seq false ys)):∃xs,x=.seq false xs∧ys=slice xs i (.ofNat xs.length):=
 (Of e).elim (fun h=>AD h fun t a b _ _ _ ev=>by rw[ev]at e';exact nomatch ze e') fun h=>AD h fun t a b ex h1 h2 ev=>⟨t,ex,by
  rw[ev,←ze h1,←ze h2]at e'
  cases ze e';rfl⟩
theorem Vt{i:Int}(hn:S.names[k]? =some n):Oy c C d S (.p3 .slc (.loc k) (.p1 .neg (.lit (.int i))) (.lit .none)) (.Subscript (.Name n p) (.Slice (some (.UnaryOp .USub (.Constant (.int i) 0 p1) p2)) none none p3) p4):=by
 intro f A X R σ s G m led a r h E Q hq
 refine Aa (Ad h) fun l hl h=>?_
 refine Subscript_ (A5 a.G a.NM r (by rw[a.names];exact hn) hl fun rv hlr=>?_)
 refine wpAny_Slice (wpAny_evalPart_some (wpAny_UnaryOp (wpAny_Constant_int (P.neg_int (wpAny_evalPart_none (wpAny_evalPart_none ?_))))))
 have h:BP (Cf σ l) fun x=>BP (Eu C.rx .slc x (.int (-i)) .none) fun v=>BP (GO σ.heap v) fun v=>match v with | .seq false xs=>G xs σ |_=>False:=h
 refine Aa (Ad h) fun xv hx h=>?_
 refine Aa (Ad h) fun v hv h=>?_
 refine Aa (Ad h) fun u hu h=>?_
 refine Aa (MB h) fun ys hq1 h=>?_
 rw[hq1]at hu
 refine Aa (Vn hv hu) fun xs hq1 hq2=>?_
 rw[hq1]at hx
 rw[hq2]at h
 have Hx:=Bi r hx hlr
 exact eQ (s:={s with toks:=s.toks+1+1}) r Hx (.int (-i) _) .none (show CL (.int (-i))=some (-i)from rfl) (show Ca xs.length .none=some (.ofNat xs.length)from rfl) fun R' rv s' led' le sm r' hv=>hq (.v (.seq false _)) _ R' rv s' led' le ((Al (h':=s.heap) (zp (zP _) (zP _))).trans sm) rfl h r' (.v hv)
structure Tf(scope:Scope)(vn:Str)(cl:List (Str×Addr))(env:Env):Prop where
 clos:closureFor scope env=pure cl
 cell:∀y∈scope.names,y.2≠ .cell
 kind:scope.kind=.function
 names:∀y∈scope.names,y.2=.local→scope.names.lookup y.1=some .local
 x:scope.names.lookup vn=some .local
theorem HZ{q:Nat}{ct elt:PySem.Expr}{scope:Scope}{cl:List (Str×Addr)}{s:Shared}{K:LV→St→Prop}{E Q:Value→Shared→Prop}(hs:Dm x=false)(i:Oy c C d S e x)(a:At c S d f A X R σ s)(r:Rel c f R σ s.heap m led)(O:Tf scope vn cl f.env)(h:B2 C X (.comp q e k) K σ)
  (hT:∀{R':Rec} {s':Shared} {led':List (Addr×Obj)},R.le R'→Rel c f R' σ s'.heap m led'→∀{l:LV} {b:Val} {xs ys:List Val},Ax σ.loc k=some l→val? l=some b→KR σ.heap q b xs=some ys→
   ∃g,Dw g xs=some ys∧HR c f R' A m led' vn ct scope cl g∧KA c f R' A m led' vn elt scope cl g)
  (hq:∀l σ' R' rv s',R.le R'→An s s'→K l σ'→Ap c f R' σ' s'.heap→LR c R' l rv→Q rv s'):wpAny (model c.prog c.w) A (eval (.ListComp elt [⟨.Name vn p2,x,[ct],0⟩] scope p) f.env) Q E s:=by
 refine CQ (LCt.ListComp_T r.F O.clos O.cell O.kind O.names O.x (i f A X R σ s _ m led a r h _ _ fun l xs R' rv s' led' le sm hx hk r' hlr=>?_) (H7 hs))
 refine Aa (Ad hk) fun lb hlb hk=>?_
 refine Aa (Am hk) fun b hb hk=>?_
 refine Aa (Ad hk) fun ys hys hk=>?_
 refine PH (Zt r' hx hlr) fun ax vs e hS hlen hs=>?_
 have hlv:vs.toArray.size=xs.length:=zL.trans hs.length
 refine .inl ⟨ax,vs.toArray,led',e,a.G.hh,r'.F,r'.N,hS,by rw[hlv];exact hlen,fun s₂ hg=>?_⟩
 rw[hlv]
 refine BZ (hT le r' hlb hb hys) fun g g1 g2 g3=>?_
 refine OK g2 g3 hS (all:=ys) (fun yvs hyv=>?_) (ys:=[]) (fun j v hj=>zg (hs.get hj) fun rv e=>⟨rv,by rw[jr,z8];exact e.1,e.2⟩) .nil g1 rfl
 intro D h' tk F N off htk
 refine Hm ((r'.heap F fun p hp=>N p (.tail _ hp)).I9 F N (UN off)) fun R'' le' rn hzn _ _=>?_
 refine zg hg fun g e=>?_
 rw[e]at htk ⊢
 exact hq _ σ R'' (.ref D) _ (le.trans le') ⟨sm.gens,sm.drawn,sm.os,htk⟩ hk ⟨_,_,rn⟩ (.v (.seq (.of (.inr hzn)) (zp (QW g1) hlen) (Vs.up le' hyv)))
theorem Dc{scope:Scope}{cl:List (Str×Addr)}{C':Addr}{m₂:Str→Option Value}{v:Value}{s:Shared}{E Q:Value→Shared→Prop}(O:Tf scope vn cl f.env)(hd:(vn==("__debug__":Str))=false)(ns:s.heap.Ns C' m₂)(hm:m₂ vn=some v)(hq:Q v s):
  wpAny (model c.prog c.w) A (eval (.Name vn p) (compEnvC scope cl C' f.env)) Q E s:=wpAny_Name (wpAny_loadName_local O.kind (lookup_relabel_local O.x) ns hm hq) hd
theorem Yt{u v:Value}{s:Shared}{a a':Addr}{us vs:List Value}{n n':Nat}{bb:Bool}(hu:A.units < cLine)(e1:u=.ref a)(e2:v=.ref a')(g1:Cl s.heap a false us n)(g2:Cl s.heap a' false vs n')(h0:vs=[])(hb:bb= !us.isEmpty){E Q:Value→Shared→Prop}(hq:Q (.bool bb) s):
  wpAny (model c.prog c.w) A (compareOp .NotEq u v) Q E s:=by
 subst e1;subst e2;subst h0;subst hb
 induction us using zo with
 |nil=>
  have t:SeqAt.RcNeAt A s (.ref a) (.ref a') _:=SeqAt.RcNeAt.lists (e:=fun _=>true) (Ai g1) (Ai g2) rfl hu fun j j1 j2=>absurd j1 (jy _)
  exact PySem.EqBoolInt.of_rcne t hq
 |cons y ys=>
  exact PySem.EqBoolInt.of_rcne (SeqAt.RcNeAt.lists_lengths (Ai g1) (Ai g2) (JR.mpr nofun) hu) hq
theorem H9{h:List Cell}{x:Val}{o:Option Val}(e:EP h x=some o):∃j xs,x=.hl j∧h[j]? =some (.Ak xs)∧o=xs.head? :=
 Aa (bH e) fun j ex h=>Aa (bT h) fun xs eh q=>⟨j,xs,ex,eh,(ze q).symm⟩
theorem fq{scope:Scope}{cl:List (Str×Addr)}(hu:A.units+64 < cLine)(O:Tf scope vn cl f.env)(hd:(vn==("__debug__":Str))=false)(r:Rel c f R σ h m led):
  HR c f R A m led vn (.Compare (.Name vn p1) [.NotEq] [.List [] p2] p3) scope cl (EP σ.heap):=by
 intro x v o hv ho s C' m₂ ns hm F N E Q hq
 refine wpAny_isTrue_Compare1 (Dc O hd ns hm (List_ (jI (wpAny_newObj_type ?_)))) rfl
 refine Aq (H9 ho) fun j xs e1 e2 e3=>?_
 rw[e1]at hv
 refine Aa (VR.af hv) fun a ea ha=>?_
 refine AD (r.Ak e2) fun b vs n b1 b2 b3 b4=>?_
 cases ha.symm.trans b1
 refine Yt (bb:= !vs.isEmpty) (jm (zB _ _) hu) ea rfl (Cl.of (z6 _ (N.get b2))) ⟨_,Ja _ rfl,rfl,rfl⟩ rfl rfl ?_
 refine wpAny_truthy_bool ?_
 have:(!vs.isEmpty)=o.isSome:=by
  rw[e3]
  induction xs using zo with
  |nil=>rw[AU.C7 b4];rfl
  |cons y ys=>obtain⟨_,_,e,_,_⟩:=AU.A9 b4;rw[e];rfl
 rw[this]
 exact(hq _).1 _
theorem bt{scope:Scope}{cl:List (Str×Addr)}{k0:Nat}(O:Tf scope vn cl f.env)(hd:(vn==("__debug__":Str))=false)(r:Rel c f R σ h m led):
  KA c f R A m led vn (.Subscript (.Name vn p1) (.Constant (.int 0) k0 p2) p3) scope cl (EP σ.heap):=by
 intro x v y hv ho s C' m₂ ns hm F N E Q hq
 refine Subscript_ (Dc O hd ns hm (wpAny_Constant_int ?_))
 refine Aq (H9 ho) fun j xs e1 e2 e3=>?_
 rw[e1]at hv
 refine Aa (VR.af hv) fun a ea ha=>?_
 refine AD (r.Ak e2) fun b vs n b1 b2 b3 b4=>?_
 cases ha.symm.trans b1
 rw[ea]
 induction xs using zo with
 |nil=>exact nz e3.symm
 |cons z zs=>
  cases ze e3
  obtain⟨rv,ws,e,h1,h2⟩:=AU.A9 b4
  have g:Cl s.heap a false vs n:=.of (N.get b2)
  refine Cc (s:={s with toks:=s.toks+1}) (Ai g).typeIs slot_list_getitem.lookup ?_
  refine wpAny_getItem_list (s:={s with toks:=s.toks+1}) (Ai g) (Int.le_refl 0) (by decide) (by rw[e];rfl) ?_
  exact hq rv _ h1
theorem IG{scope:Scope}{n:Str}{ca:Addr}{C':Addr}{oc:Obj}{v:Value}{s:Shared}{E Q:Value→Shared→Prop}(hf:f.env.scope.kind=.function)(hkn:f.env.kindOf n=some .cell)(kd:scope.kind=.function)(fr:scope.names.lookup n=some .free)(hd:(n==("__debug__":Str))=false)
  (hg:s.heap.get? ca=some oc) (hc:oc.data=.cell (some v)) (hq:Q v s):wpAny (model c.prog c.w) A (eval (.Name n p) (compEnvC scope [(n,ca)] C' f.env)) Q E s:=
 wpAny_Name (wpAny_loadName_cell kd (Ed hf hkn fr) (show List.lookup n [(n,ca)]=some ca by rw[zV,ju]) ⟨oc,hg,hc⟩ hq) hd
theorem GG{p:Int→Option Bool}{x:Val}{o:Option Val}(e:HG p x=some o):∃i b,x=.int i∧p i=some b∧o=cond b (some (.int i)) none:=
 Aa (bI e) fun i ex h=>Aa (Np h) fun b eb q=>⟨i,b,ex,eb,(ze q).symm⟩
theorem IA{b:Bool}{v:Val}:(cond b (some v) none).isSome=b:=by induction b using za <;>rfl
theorem Wr{scope:Scope}{cl:List (Str×Addr)}{pr:Int→Option Bool}(O:Tf scope vn cl f.env)(hd:(vn==("__debug__":Str))=false):KA c f R A m led vn (.Name vn p1) scope cl (HG pr):=by
 intro x v y hv ho s C' m₂ ns hm F N E Q hq
 refine Dc O hd ns hm ?_
 refine Aq (GG ho) fun i b e1 e2 e3=>?_
 induction b using za with
 |false=>exact nz e3.symm
 |true=>
  cases ze e3
  rw[e1]at hv
  exact hq v s.toks hv
theorem TA(N:E4 c f){n:Str}(h:n∈f.names)(hk:f.cs.names.lookup n=some .cell):∃a,f.cl.lookup n=some a:=
 (N.kinds n h).elim (fun e=>nomatch (ze (hk.symm.trans e):NameKind.cell=.local)) fun h=>h.elim (fun h=>h.2) fun h=>h.2
theorem Qs(r:Rel c f R σ h m led){n:Str}{ca:Addr}{b:Val}(hn:f.names[k]? =some n)(hk:f.cs.names.lookup n=some .cell)(hca:f.cl.lookup n=some ca){l:LV}(hl:Ax σ.loc k=some l)(hb:val? l=some b):∃o rv,(ca,o)∈led∧o.data=.cell (some rv)∧c.V R b rv:=by
 have hr:=r.slots k n l hn hl
 rw[hk]at hr
 refine AD hr fun ca' o rv b1 b2 b3 b4=>?_
 cases hca.symm.trans b1
 exact⟨o,rv,b2,b3,AP hb b4⟩
theorem fu{scope:Scope}{n:Str}{ca:Addr}{oc:Obj}{rv:Value}{bs:List Val}(hf:f.env.scope.kind=.function)(hkn:f.env.kindOf n=some .cell)(O:Tf scope vn [(n,ca)] f.env)(fr:scope.names.lookup n=some .free)(hd:(vn==("__debug__":Str))=false)(hdn:(n==("__debug__":Str))=false)
  (hm:(ca,oc)∈led) (hc:oc.data=.cell (some rv)) (hv:c.V R (.seq false bs) rv) (r:Rel c f R σ h m led):
  HR c f R A m led vn (.Compare (.Name vn p1) [.NotIn] [.Name n p2] p3) scope [(n,ca)] (HG fun x=>(CJ x bs).bind fun r=>some (!r)):=by
 intro x v o hx ho s C' m₂ ns hmn F N E Q hq
 refine wpAny_isTrue_Compare1 (Dc O hd ns hmn (IG hf hkn O.kind fr hdn (N.get hm) hc ?_)) rfl
 refine Aq (GG ho) fun i b e1 e2 e3=>?_
 refine Aa (Np e2) fun b' q1 q2=>?_
 rw[e1]at hx
 refine zg hx.HH fun t et=>?_
 rw[et]
 refine AD hv.inv fun a vs nn e hz hlen hs=>?_
 rw[e]
 have g:Cl s.heap a false vs nn:=(r.heap F N).T7 hz
 refine Aa (ints_in hs q1) fun ns' n1 n2=>?_
 refine notin_list_ints (Ai g) n1 ?_
 rw[n2]
 refine wpAny_truthy_bool ?_
 rw[ze q2,←IA (b:=b) (v:=.int i),←e3]
 exact(hq _).2
theorem fv{scope:Scope}{n:Str}{ca:Addr}{oc:Obj}{rv:Value}{y0:Int}{bs:List Val}{k0:Nat}(hf:f.env.scope.kind=.function)(hkn:f.env.kindOf n=some .cell)(O:Tf scope vn [(n,ca)] f.env)(fr:scope.names.lookup n=some .free)(hd:(vn==("__debug__":Str))=false)(hdn:(n==("__debug__":Str))=false)
  (hm:(ca,oc)∈led) (hc:oc.data=.cell (some rv)) (hv:c.V R (.seq false (.int y0::bs)) rv) (r:Rel c f R σ h m led):
  HR c f R A m led vn (.Compare (.Name vn p1) [.Gt] [.Subscript (.Name n p2) (.Constant (.int 0) k0 p4) p5] p3) scope [(n,ca)] (HG fun x=>some (ltI y0 x)):=by
 intro x v o hx ho s C' m₂ ns hmn F N E Q hq
 refine wpAny_isTrue_Compare1 (Dc O hd ns hmn (Subscript_ (IG hf hkn O.kind fr hdn (N.get hm) hc (wpAny_Constant_int ?_)))) rfl
 refine Aq (GG ho) fun i b e1 e2 e3=>?_
 rw[e1]at hx
 refine zg hx.HH fun t et=>?_
 rw[et]
 refine AD hv.inv fun a vs nn e hz hlen hs=>?_
 rw[e]
 have g:Cl s.heap a false vs nn:=(r.heap F N).T7 hz
 obtain⟨rv0,ws,e,h1,h2⟩:=AU.A9 hs
 refine zg h1.HH fun t0 et0=>?_
 refine Cc (s:={s with toks:=s.toks+1}) (Ai g).typeIs slot_list_getitem.lookup ?_
 refine wpAny_getItem_list (s:={s with toks:=s.toks+1}) (Ai g) (Int.le_refl 0) (by decide) (by rw[e];rfl) ?_
 rw[et0]
 refine PyProof.Rows.gt_int (wpAny_truthy_bool ?_)
 rw[←Ff]
 have e2:ltI y0 i=b:=ze e2
 rw[e2,←IA (b:=b) (v:=.int i),←e3]
 exact(hq _).2
end
end
section
set_option maxHeartbeats 4000000
noncomputable def gX:P1→Bool
 | .len=>true
 | .sum=>true
 | .syn1=>true
 |_=>false
noncomputable def gY(o:P2):Bool:=match Gy o,HW o with
 |none,none=>(match o with
  | .idx=>false
  |_=>true)
 |_,_=>false
noncomputable def gZ:P3→Bool
 | .syn3=>true
 |_=>false
structure fO(c:Cx)(C:Cfg)(d:Nat)(S:Sx)(T:Tb):Prop where
 names:S.names=T.names
 attrs:c.attrs=T.attrs
 self:c.self=T.self
 Af:S.Af=T.Af
 gl:c.gl=T.gl
 kfun:S.cs.kind=.function
 loc:∀n∈T.names,S.cs.names.lookup n≠some .free
 sk:T.Af=true→S.cs.names.lookup c.self=some .local∧(c.self==("__debug__":Str))=false
 gsc:∀n∈T.gls,S.cs.names.lookup n=some .globalImplicit∧(n==("__debug__":Str))=false
 n1:∀o,gX o=true→g1 o∈T.gls→B7 c S (g1 o) (fun |[x]=>Cb C.rx o x |_=>none)
 n2:∀o,gY o=true→g2 o∈T.gls→B7 c S (g2 o) (fun |[x,y]=>Bu C.rx o x y |_=>none)
 n3:∀o,gZ o=true→g3 o∈T.gls→B7 c S (g3 o) (fun |[x,y,z]=>Eu C.rx o x y z |_=>none)
 sq:g1 .squeeze∈T.gls→∀(x:PySem.Expr) (p q q':Pos),Cs x→(q.endLine==p.line)=true→Nh c S x (.Call (.Attribute x "translate" q) [.Name (g1 .squeeze) q'] [] p) (Cb C.rx .squeeze)
 ms:B6 c S "start" Mz (fun |x,[]=>Cb C.rx .mstart x |_,_=>none)
 mp:B6 c S "span" Mz (fun |x,[]=>Cb C.rx .mspan x |_,_=>none)
 mf:B6 c S "find" Cj (fun |x,[y,z]=>Eu C.rx .find x y z |_,_=>none)
 mr:B6 c S "rfind" Cj (fun |x,[y,z,w]=>Pm .rfind x y z w |_,_=>none)
 fn:∀k,T.mtn≤k→k < T.C2.length→Aj T.C2 k∈T.gls→T.Af=false→kH c S (Aj T.C2 k) k
 mt:∀k,k < T.mtn→PP c (Aj T.C2 k) k
 celk:∀n∈T.cells,S.cs.names.lookup n=some .cell
 new:T.Af=false→T.cls∈T.gls→PR c C d S T.cls
 ic:∀(k:Nat) (q p:Pos) (n:Str) {x:PySem.Expr} {e:E},S.names[k]? =some n→Ah x=true→AE c C d S e x→AE c C d S (.icall k e) (.Call (.Name n q) [x] [] p)
theorem BU:∀{l:List Str} {k:Nat},k < l.length→l[k]? =some (Aj l k)
 |[],_,h=>absurd h (jy _)
 |_::_,0,_=>rfl
 |_::r,k+1,h=>by rw[List.getElem?_cons_succ];exact BU (jG h)
section
variable {c:Cx}{C:Cfg}{S:Sx}{d:Nat}{T:Tb}{e a b g e':E}{es:Es}
theorem BS(T:Tb)(i k:Nat):((T.q i k).endLine==(T.p k).line)=true:=ju _
noncomputable def PE(c:Cx)(C:Cfg)(d:Nat)(S:Sx)(T:Tb)(e:E):Prop:=∀k,CF T e=true→AE c C d S e (BO T e k)∧Ej c C d S e (BO T e k)
noncomputable def Tg(c:Cx)(C:Cfg)(d:Nat)(S:Sx)(T:Tb)(es:Es):Prop:=∀k,Lz T es=true→V8 c C d S es (Ec T es k)∧
 (0 < Lo es→∀o p,AE c C d S (.bl o es) (.BoolOp (cond o .And .Or) (Ec T es k) p)∧Ej c C d S (.bl o es) (.BoolOp (cond o .And .Or) (Ec T es k) p))
theorem CB{e:E}{x:PySem.Expr}(i:AE c C d S e x)(h:∀(X:AN→St→Prop) (K:Bool→St→Prop) (σ:St),Kz C X e K σ→False):AE c C d S e x∧Ej c C d S e x:=⟨i,fo h⟩
theorem F7{e:E}{x:PySem.Expr}(i:AE c C d S e x)(hi:∀env whole,isTrue x env whole=(do let v ←whole;standAt x.pos;holding [v] (truthy v)))(he:∀{X:AN→St→Prop} {σ:St} {K:Bool→St→Prop},Kz C X e K σ→B2 C X e (Eg K) σ):AE c C d S e x∧Ej c C d S e x:=
 ⟨i,LX hi he i⟩
variable (O:fO c C d S T)(ok:Dy c)(HC:AM c C d c.mth)
include O in
theorem A7{k:Nat}(h:Nat.blt k T.names.length=true):S.names[k]? =some (Aj T.names k):=by rw[O.names];exact BU (CC h)
theorem R4(v:Val):PE c C d S T (.lit v):=by
 intro k h
 refine CB ?_ fun _ _ _ h=>h
 induction v using Val.casesOn with
 |none=>exact TT
 |bool b=>exact TO
 |int i=>exact Xu
 |str x=>exact XI (Cn h)
 |_=>exact ft h
include O ok in
theorem UT(i:Nat)(v:Val):PE c C d S T (.glob i v):=by
 intro k h
 refine CB ?_ fun _ _ _ h=>h
 have h:(match T.gl[i]? with |some g=>vEq g.2 v && Bn T.gls (Aj (T.gl.map (·.1)) i) |none=>false)=true:=h
 induction q:T.gl[i]? using zh with
 |none=>rw[q]at h;exact ft h
 |some g=>
  rw[q]at h
  have h:=Ac h
  have e:Aj (T.gl.map (·.1)) i=g.1:=by
   have h1:=BU (l:=T.gl.map (·.1)) (k:=i) (by rw[jb];exact(zn.mp q).1)
   rw[Ju,q]at h1
   exact(ze h1).symm
  have h2:=O.gsc _ (Bc h.2)
  rw[←Z2 _ _ h.1]
  show AE c C d S _ (.Name (Aj (T.gl.map (·.1)) i) _)
  rw[e]at h2 ⊢
  exact TP ok (by rw[O.gl];exact zQ q) h2.1 h2.2
include O in
theorem YK(i:Nat):PE c C d S T (.loc i):=fun _ h=>F7 (Xv (A7 O h)) (fun _ _=>rfl) fun h=>h
include O ok in
theorem YQ(i:Nat):PE c C d S T (.sat i):=by
 intro k h
 have h:=Ac h
 refine Aw (O.sk h.1) fun s1 s2=>?_
 refine CB ?_ fun _ _ _ h=>h
 show AE c C d S _ (.Attribute (.Name T.self _) _ _)
 rw[←O.self]
 exact XG ok (O.Af.trans h.1) s1 s2 (by rw[O.attrs];exact BU (CC h.2))
theorem NY:∀x,Mz x=true→isAtom x=true:=fun x h=>by induction x using Val.casesOn <;>first |rfl |exact ft h
include O in
theorem dS(o:P1)(a:E)(i:PE c C d S T a):PE c C d S T (.p1 o a):=by
 intro k h
 have h:=Ac h
 have i1:=(i (k+3) h.2).1
 have hp:=AA T a (k+3)
 induction o using P1.casesOn with
 |neg=>exact⟨QJ i1,ZX i1⟩
 |isnone=>exact⟨ON i1,PA i1⟩
 |notnone=>exact⟨Mq i1,M4 i1⟩
 |len=>exact F7 (Mp (O.n1 .len rfl (Bc h.1)) hp i1) (fun _ _=>rfl) fun h=>h
 |sum=>exact F7 (Mp (O.n1 .sum rfl (Bc h.1)) hp i1) (fun _ _=>rfl) fun h=>h
 |mstart=>exact F7 (QI NY (fun x v h=>by induction x using Val.casesOn <;>first |rfl |exact nz h) O.ms (Ce T _ h.1) (BS ..) i1) (fun _ _=>rfl) fun h=>h
 |mspan=>exact F7 (QI NY (fun x v h=>by induction x using Val.casesOn <;>first |rfl |exact nz h) O.mp (Ce T _ h.1) (BS ..) i1) (fun _ _=>rfl) fun h=>h
 |syn1=>exact F7 (Mp (O.n1 .syn1 rfl (Bc h.1)) hp i1) (fun _ _=>rfl) fun h=>h
 |squeeze=>exact F7 (XD (O.sq (Bc (Ac h.1).1) _ _ _ _ (Ce T _ (Ac h.1).2) (BS ..)) i1) (fun _ _=>rfl) fun h=>h
include O in
theorem dT(o:P2)(a b:E)(i:PE c C d S T a)(j:PE c C d S T b):PE c C d S T (.p2 o a b):=by
 intro k h
 have h:=Ac h
 have h2:=Ac h.2
 have i1:=(i (k+2) h2.1).1
 have j1:=(j (k+2+sz a) h2.2).1
 show AE c C d S _ (f2 T o _ _ _)∧Ej c C d S _ (f2 T o _ _ _)
 have h1:i4 T o=true:=h.1
 unfold i4 at h1
 unfold f2
 induction q:Gy o using zh with
 |some op=>exact⟨Xp q (D6 ..) i1 j1,ZW q (D6 ..) i1 j1⟩
 |none=>
  rw[q]at h1
  induction q':HW o using zh with
  |some op=>exact F7 (Xo q' i1 j1) (fun _ _=>rfl) fun h=>h
  |none=>
   rw[q']at h1
   induction o using P2.casesOn with
   |idx=>exact F7 (Xr i1 j1) (fun _ _=>rfl) fun h=>h
   |syn2=>exact F7 (Xz (O.n2 _ rfl (Bc h1)) (AA ..) (AA ..) i1 j1) (fun _ _=>rfl) fun h=>h
   |_=>first |exact nz q.symm |exact nz q'.symm
theorem Rq{k:Nat}(h:Wq a=true):Cs (BO T a k)∧∀{l:Addr} (r:Value),letTemporaryGo (BO T a k) (.ref l) r=pure ():=by
 induction a using E.casesOn with
 |loc i=>exact⟨fun _ _ _=>rfl,fun _=>rfl⟩
 |_=>exact ft h
include O in
theorem dU(o:P3)(a b e:E)(i:PE c C d S T a)(j:PE c C d S T b)(g:PE c C d S T e):PE c C d S T (.p3 o a b e):=by
 intro k h
 have h:=Ac h
 have h2:=Ac h.2
 have h3:=Ac h2.2
 have i1:=(i (k+2) h2.1).1
 have j1:=(j (k+2+sz a) h3.1).1
 have g1:=(g (k+2+sz a+sz b) h3.2).1
 induction o using P3.casesOn with
 |slc=>exact CB (XH i1 (WF rfl j1) (WF rfl g1)) fun _ _ _ h=>h
 |syn3=>exact CB (XA (O.n3 .syn3 rfl (Bc h.1)) (AA ..) (AA ..) (AA ..) i1 j1 g1) fun _ _ _ h=>h
 |find=>exact ft h.1
 |replace=>exact ft h.1
include O in
theorem dW(o:P4)(a b e g:E)(i:PE c C d S T a)(j:PE c C d S T b)(l:PE c C d S T e)(r:PE c C d S T g):PE c C d S T (.p4 o a b e g):=by
 intro k h
 have h:=Ac h
 have h2:=Ac h.2
 have h3:=Ac h2.2
 have h4:=Ac h3.2
 refine CB ?_ fun _ _ _ h=>h
 have i1:=(i (k+2) h2.1).1
 have j1:=(j (k+2+sz a) h3.1).1
 have l1:=(l (k+2+sz a+sz b) h4.1).1
 have r1:=(r (k+2+sz a+sz b+sz e) h4.2).1
 have hb:=Ce T (k+2) h.1
 induction o using P4.casesOn with
 |rfind=>exact Xy O.mr hb (BS ..) (AA ..) (AA ..) (AA ..) i1 j1 l1 r1
theorem NT{e:E}{t:Txt}(h:Lp e=some t):e=.lit (.str t):=by
 induction e using E.casesOn with
 |lit v=>induction v using Val.casesOn with
  |str x=>rw[ze h]
  |_=>exact nz h
 |_=>exact nz h
include O in
theorem dR(o:P3)(a b e:E)(i:PE c C d S T a)(j:PE c C d S T b)(g:PE c C d S T e):PE c C d S T (.m3 o a b e):=by
 intro k h
 refine CB ?_ fun _ _ _ h=>h
 induction o using P3.casesOn with
 |find=>
  have h:=Ac h
  have h2:=Ac h.2
  have h3:=Ac h2.2
  exact Xx O.mf (Ce T _ h.1) (BS ..) (AA ..) (AA ..) (i (k+2) h2.1).1 (j (k+2+sz a) h3.1).1 (g (k+2+sz a+sz b) h3.2).1
 |replace=>
  have h:(i5 T a b e && CF T a)=true:=h
  have h:=Ac h
  have h1:=h.1
  unfold i5 at h1
  induction q:Lp b using zh with
  |none=>rw[q]at h1;exact ft h1
  |some u=>induction q':Lp e using zh with
   |none=>rw[q,q']at h1;exact ft h1
   |some v=>
    rw[q,q']at h1
    have h1:=Ac h1
    have h2:=Ac h1.2
    have h3:=Ac h2.2
    have e1:=NT q
    have e2:=NT q'
    subst e1;subst e2
    refine XE (O.Af.trans h1.1) (Ce T _ h2.1) (BS ..) ?_ (Cn h3.2) (i (k+2) h.2).1
    induction hb:Bo u v using za with
    |false=>rfl
    |true=>rw[hb]at h3;exact ft h3.1
 |_=>exact ft h
theorem YN:PE c C d S T .ntp:=fun _ _=>CB XC fun _ _ _ h=>h
theorem UY(a b:E)(i:PE c C d S T a)(j:PE c C d S T b):PE c C d S T (.tapp a b):=fun k h=>
 have h:=Ac h
 have h2:=Ac h.2
 CB (TV (Ce T _ h.1) (AA ..) (BS ..) (i (k+2) h2.1).1 (j (k+2+sz a) h2.2).1) fun _ _ _ h=>h
theorem YO(a:E)(i:PE c C d S T a):PE c C d S T (.rvt a):=fun k h=>CB (XF (i (k+3) h).1) fun _ _ _ h=>h
include O ok in
theorem YJ(i j:Nat):PE c C d S T (.fld i j):=by
 intro k h
 have h:=Ac (Ac h).2
 exact CB (Xq ok (A7 O h.1) (by rw[O.attrs];exact BU (CC h.2))) fun _ _ _ h=>h
theorem UV(a b:E)(i:PE c C d S T a)(j:PE c C d S T b):PE c C d S T (.lidx a b):=fun k h=>
 have h:=Ac h
 have h2:=Ac h.2
 CB (TR (Ce T _ h.1) (AA ..) (BS ..) (i (k+2) h2.1).1 (j (k+2+sz a) h2.2).1) fun _ _ _ h=>h
include O in
theorem UU(i j:Nat):PE c C d S T (.isnt i j):=fun _ h=>⟨TQ (A7 O (Ac h).1) (A7 O (Ac h).2),VT (A7 O (Ac h).1) (A7 O (Ac h).2)⟩
theorem Rr{e:E}{k:Nat}(h:O3 e=some k):e=.loc k:=by
 induction e using E.casesOn with
 |loc j=>rw[←ze h]
 |_=>exact nz h
theorem Yu{e:E}{i:Int}(h:UD e=some i):e=.p1 .neg (.lit (.int i)):=by
 induction e using E.casesOn with
 |p1 o a=>induction o using P1.casesOn with
  |neg=>induction a using E.casesOn with
   |lit v=>induction v using Val.casesOn with
    |int j=>rw[←ze h]
    |_=>exact nz h
   |_=>exact nz h
  |_=>exact nz h
 |_=>exact nz h
theorem Zq{e:E}{p:Nat×Int}(h:SG e=some p):e=.p3 .slc (.loc p.1) (.p1 .neg (.lit (.int p.2))) (.lit .none):=by
 induction e using E.casesOn with
 |p3 o a b g=>induction o using P3.casesOn with
  |slc=>
   have h:(match O3 a,UD b,GH g with |some k,some i,true=>some (k,i) |_,_,_=>none)=some p:=h
   induction q1:O3 a using zh with
   |none=>rw[q1]at h;exact nz h
   |some k=>induction q2:UD b using zh with
    |none=>rw[q1,q2]at h;exact nz h
    |some i=>induction q3:GH g using za with
     |false=>rw[q1,q2,q3]at h;exact nz h
     |true=>
      rw[q1,q2,q3]at h
      rw[←ze h,Rr q1,Yu q2,RK q3]
  |_=>exact nz h
 |_=>exact nz h
include O in
theorem Vq{a:E}{k:Nat}(h:RO T a=true):Oy c C d S a (BO T a k):=by
 unfold RO at h
 induction q1:O3 a using zh with
 |some i=>rw[q1]at h;rw[Rr q1];exact Vr (A7 O h)
 |none=>induction q2:SG a using zh with
  |none=>rw[q1,q2]at h;exact ft h
  |some p=>rw[q1,q2]at h;rw[Zq q2];exact Vt (A7 O h)
theorem CY(q:Nat):(CD q==("__debug__":Str))=false:=by
 induction q using zz with
 |zero=>kernel_rfl
 |succ q=>kernel_rfl
theorem Qp(q:Nat):(CD q==(".0":Str))=false:=by
 induction q using zz with
 |zero=>kernel_rfl
 |succ q=>kernel_rfl
theorem ET{n m:Str}{k:NameKind}{l:List (Str×NameKind)}(h:(n==m)=false):((m,k)::l).lookup n=l.lookup n:=by rw[zV,h]
theorem DJ{n:Str}{k:NameKind}{l:List (Str×NameKind)}:((n,k)::l).lookup n=some k:=by rw[zV,ju]
theorem Hu{α:Type}{P:α→Prop}{x:α}{l:List α}(h:P x)(hl:∀y∈l,P y):∀y∈x::l,P y:=fun _ hy=>(zI.mp hy).elim (fun e=>e▸h) (hl _)
theorem Ye{j:Nat}{env:Env}:Tf (Gv T 0 j) (CD 0) [] env:=by
 have l1:=(ET (l:=[(CD 0,NameKind.local)]) (k:=.local) (Qp 0)).trans DJ
 exact⟨rfl,Hu nofun (Hu nofun fun _ h=>nomatch h),rfl,Hu (fun _=>DJ) (Hu (fun _=>l1) fun _ h=>nomatch h),l1⟩
theorem Wz{n m:Str}(h:(!(Dn n m))=true):(n==m)=false:=jd.mpr fun e=>by
 rw[e]at h
 have:Dn m m=true:=by unfold Dn;rw[Gm];exact ja rfl
 rw[this]at h;exact ft h
theorem g9{q j:Nat}{env:Env}{ca:Addr}(hq:q≠0)(h1:(!(Dn (Aj T.names j) (CD q)))=true)(h2:(!(Dn (Aj T.names j) ".0"))=true)(hca:env.cells.lookup (Aj T.names j)=some ca):
  Tf (Gv T q j) (CD q) [(Aj T.names j,ca)] env∧(Gv T q j).names.lookup (Aj T.names j)=some .free:=by
 have e:(Gv T q j).names=[((".0":Str),NameKind.local),(CD q,.local),(Aj T.names j,.free)]:=by
  induction q using zz with
  |zero=>exact absurd rfl hq
  |succ q=>rfl
 have l1:(Gv T q j).names.lookup (CD q)=some .local:=by rw[e];exact(ET (Qp q)).trans DJ
 refine⟨⟨?_,?_,rfl,?_,l1⟩,?_⟩
 ·unfold closureFor
  rw[e]
  unfold cellOf
  simp[forIn,ForIn.forIn,hca]
 ·rw[e];exact Hu nofun (Hu nofun (Hu nofun fun _ h=>nomatch h))
 ·rw[e]at l1 ⊢;exact Hu (fun _=>DJ) (Hu (fun _=>l1) (Hu nofun fun _ h=>nomatch h))
 ·rw[e];exact(ET (Wz h2)).trans ((ET (Wz h1)).trans DJ)
theorem kc{h:List Cell}{b:Val}{xs ys:List Val}(h:KR h 2 b xs=some ys):∃y bs,b=.seq false (.int y::bs)∧Dw (HG fun x=>some (ltI y x)) xs=some ys:=
 Aa (bL h) fun bs e h=>by
  induction bs using zo with
  |nil=>exact nz h
  |cons v bs=>exact Aa (bI h) fun y ey q=>⟨y,bs,by rw[e,ey],q⟩
include O in
theorem G4{q j:Nat}{a:E}(H:∀k,Nat.blt j T.names.length=true→cond (Nat.beq q 0) true (Bn T.cells (Aj T.names j) && (!(Dn (Aj T.names j) (CD q)) && !(Dn (Aj T.names j) ".0")))=true→Oy c C d S a (BO T a (k+8))→AE c C d S (.comp q a j) (BO T (.comp q a j) k)):PE c C d S T (.comp q a j):=fun k h=>
 have h1:=Ac (Ac h).2
 have h2:=Ac h1.1
 CB (H k h2.1 h2.2 (Vq O h1.2)) fun _ _ _ h=>h
include O in
theorem Qv{q j:Nat}{a:E}{ct elt x:PySem.Expr}{p p2:Pos}(hq:q≠0)(hj:Nat.blt j T.names.length=true)(h3:(Bn T.cells (Aj T.names j) && (!(Dn (Aj T.names j) (CD q)) && !(Dn (Aj T.names j) ".0")))=true)(hs:Dm x=false)(i:Oy c C d S a x)
  (H:∀{f:Fx} {A:Around} {R:Rec} {σ:St} {h:Heap} {m:Str→Option Value} {led:List (Addr×Obj)} {ca:Addr} {oc:Obj} {rv:Value} {b:Val} {xs ys:List Val},f.env.scope.kind=.function→f.env.kindOf (Aj T.names j)=some .cell→Tf (Gv T q j) (CD q) [(Aj T.names j,ca)] f.env→(Gv T q j).names.lookup (Aj T.names j)=some .free→
   (Aj T.names j==("__debug__":Str))=false→(ca,oc)∈led→oc.data=.cell (some rv)→c.V R b rv→Rel c f R σ h m led→KR σ.heap q b xs=some ys→∃g,Dw g xs=some ys∧HR c f R A m led (CD q) ct (Gv T q j) [(Aj T.names j,ca)] g∧KA c f R A m led (CD q) elt (Gv T q j) [(Aj T.names j,ca)] g):
  AE c C d S (.comp q a j) (.ListComp elt [⟨.Name (CD q) p2,x,[ct],0⟩] (Gv T q j) p):=by
 intro f A X R σ s K at_ hw Ev Q xo hq'
 refine Av at_.r fun m led r=>?_
 have h3:=Ac h3
 have hn:f.names[j]? =some (Aj T.names j):=by rw[at_.names];exact A7 O hj
 have hk:f.cs.names.lookup (Aj T.names j)=some .cell:=by rw[at_.cs];exact O.celk _ (Bc h3.1)
 refine zg (TA at_.NM (zQ hn) hk) fun ca hca=>?_
 refine Aw (g9 (T:=T) (env:=f.env) (ca:=ca) hq (Ac h3.2).1 (Ac h3.2).2 hca) fun O1 fr=>?_
 exact HZ hs i at_ r O1 hw (fun{R' s' led'} le r' {l b xs ys} hl hb hys=>Aq (Qs r' hn hk hca hl hb) fun oc rv m1 m2 m3=>H at_.G.kind hk O1 fr (at_.NM.dbg _ (zQ hn)).1 m1 m2 m3 r' hys) hq'
include O in
theorem US(q:Nat)(a:E)(j:Nat):PE c C d S T (.comp q a j):=by
 induction q using zz with
 |zero=>exact G4 O fun k _ _ i f A X R σ s K at_ hw Ev Q xo hq=>Av at_.r fun m led r=>HZ (D6 ..) i at_ r Ye hw (fun{R' s' led'} le r' {l b xs ys} hl hb hys=>⟨EP σ.heap,hys,fq (ky at_) Ye (CY 0) r',bt Ye (CY 0) r'⟩) hq
 |succ q=>induction q using zz with
  |zero=>exact G4 O fun k hj h3 i=>Qv O nofun hj h3 (D6 ..) i fun k1 k2 O1 fr k3 m1 m2 m3 r hys=>Aa (bL hys) fun bs e hys=>⟨_,hys,fu k1 k2 O1 fr (CY 1) k3 m1 m2 (e▸m3) r,Wr O1 (CY 1)⟩
  |succ q=>induction q using zz with
   |zero=>exact G4 O fun k hj h3 i=>Qv O nofun hj h3 (D6 ..) i fun k1 k2 O1 fr k3 m1 m2 m3 r hys=>AH (kc hys) fun y bs e hys=>⟨_,hys,fv k1 k2 O1 fr (CY 2) k3 m1 m2 (e▸m3) r,Wr O1 (CY 2)⟩
   |succ q=>exact fun _ h=>ft (Ac h).1
end
end
section
set_option maxHeartbeats 4000000
section
variable {c:Cx}{C:Cfg}{S:Sx}{d:Nat}{T:Tb}{e a b g e':E}{es:Es}
variable (O:fO c C d S T)(ok:Dy c)(HC:AM c C d c.mth)
theorem dQ(o:Bool)(es:Es)(i:Tg c C d S T es):PE c C d S T (.bl o es):=fun k h=>(i (k+1) (Ac h).2).2 (CC (Ac h).1) o (T.p k)
theorem YM(a:E)(i:PE c C d S T a):PE c C d S T (.not_ a):=fun k h=>⟨XB (i (k+1) h).1,ZY (i (k+1) h).2⟩
theorem YR(t:Bool)(es:Es)(i:Tg c C d S T es):PE c C d S T (.seq t es):=by
 intro k h
 have h:=Ac h
 refine CB ?_ fun _ _ _ h=>h
 have hl:(Ec T es (k+1)).length≤AJ:=by rw[EG];exact Cn h.1
 have i1:=(i (k+1) h.2).1
 induction t using za with
 |true=>exact XJ hl (BJ ..) i1
 |false=>exact Xw hl (BJ ..) i1
theorem UW(es:Es)(i:Tg c C d S T es):PE c C d S T (.nlst es):=fun k h=>
 CB (TS (by rw[EG];exact Cn (Ac h).1) (BJ ..) (i (k+1) (Ac h).2).1) fun _ _ _ h=>h
theorem YI(a:E)(i:PE c C d S T a):PE c C d S T (.app a):=fun k h=>
 CB (Xn (Rq (Ac h).1).1 (Rq (Ac h).1).2 (i (k+1) (Ac h).2).1) fun _ _ _ h=>h
include O in
theorem UX(f:Nat)(a:E)(i:PE c C d S T a):PE c C d S T (.push f a):=fun k h=>
 CB (TU (A7 O (Ac h).1) (AA ..) (i (k+2) (Ac h).2).1) fun _ _ _ h=>h
include O in
theorem UR(f:Nat)(a:E)(i:PE c C d S T a):PE c C d S T (.apnd f a):=fun k h=>
 CB (TN (A7 O (Ac h).1) (AA ..) (BS ..) (i (k+3) (Ac h).2).1) fun _ _ _ h=>h
theorem BN{b:Bool}(h:(!b)=true):b=false:=by induction b using za with |false=>rfl |true=>exact ft h
include O HC in
theorem RZ(f:Nat)(es:Es)(i:Tg c C d S T es):PE c C d S T (.fcall f es):=by
 intro k h
 have h:=Ac h
 have h1:=Ac h.1
 have h2:=Ac h1.2
 have hm:=BN h1.1
 exact CB (aW (O.Af.trans hm) HC (O.fn f (Cn (Ac h2.1).1) (CC (Ac h2.1).2) (Bc h2.2) hm) (BJ ..) (i (k+2) h.2).1) fun _ _ _ h=>h
include O HC in
theorem R6(f:Nat)(es:Es):PE c C d S T (.scall f es):=by
 intro k h
 have h:=Ac h
 have h1:=Ac h.1
 refine Aw (O.sk h1.1) fun s1 s2=>?_
 refine CB ?_ fun _ _ _ h=>h
 induction es using Es.casesOn with
 |nil=>
  show AE c C d S _ (.Call (.Attribute (.Name T.self _) _ _) [] [] _)
  rw[←O.self]
  exact aY (O.Af.trans h1.1) s1 s2 HC (O.mt f (CC h1.2)) (BS ..)
 |cons _ _=>exact ft h.2
include O HC in
theorem R5(f j:Nat)(es:Es)(i:Tg c C d S T es):PE c C d S T (.mcall f j es):=by
 intro k h
 have h:=Ac h
 have h1:=Ac h.1
 have h2:=Ac h1.2
 have h3:=Ac h2.2
 exact CB (aX (O.Af.trans (BN h1.1)) HC (A7 O h3.1) (O.mt f (CC h2.1)) (BS ..) (by rw[EG];exact CC h3.2) (BJ ..) (i (k+3) h.2).1) fun _ _ _ h=>h
include O in
theorem YL(es:Es)(i:Tg c C d S T es):PE c C d S T (.new es):=by
 intro k h
 have h:=Ac h
 have h1:=Ac h.1
 have h2:=Ac h.2
 refine CB ?_ fun _ _ _ h=>h
 have hN:PR c C d S T.cls:=@fO.new c C d S T O (BN h1.1) (Bc h1.2)
 have i1:=(i (k+2) h2.2).1
 have hp:=BJ T es (k+2)
 induction es using Es.casesOn with
 |nil=>exact ft h2.1
 |cons e es=>exact fun f A X R σ s K a h=>hN a hp (i1.go hp a h)
include O in
theorem R0(f:Nat)(a:E)(i:PE c C d S T a):PE c C d S T (.icall f a):=fun k h=>
 F7 (O.ic f (T.p (k+1)) (T.p k) (Aj T.names f) (A7 O (Ac h).1) (AA ..) (i (k+2) (Ac h).2).1) (fun _ _=>rfl) fun h=>h
include O in
theorem YS(f:Nat)(a:E)(i:PE c C d S T a):PE c C d S T (.wal f a):=fun k h=>
 F7 (XM (A7 O (Ac h).1) (O.loc _ (zQ (O.names▸A7 O (Ac h).1))) (i (k+2) (Ac h).2).1) (fun _ _=>rfl) fun h=>h
theorem UZ:Tg c C d S T .nil:=fun _ _=>⟨fun _ _ _ _ _ _ _ _ _ a h=>Ho.nil a.r h,fun h=>absurd h (j6 _)⟩
theorem R7(e:E)(es:Es)(i:PE c C d S T e)(j:Tg c C d S T es):Tg c C d S T (.cons e es):=by
 intro k h
 have h:=Ac h
 refine Aw (i k h.1) fun i1 i2=>?_
 refine Aw (j (k+sz e) h.2) fun j1 j2=>?_
 refine⟨fun f A X R σ s pos K hp a h=>?_,fun _ o p=>?_⟩
 ·have hp:=Ac hp
  refine Ho.cons hp.1 fun Ev Q xo hq=>?_
  refine i1.go a h Ev Q xo fun l σ' R' rv s' le sm hk r hl=>hq l σ' R' rv s' le sm ?_ r hl
  obtain⟨v,hv,hk⟩:=Am hk
  rw[hv]
  exact fun R₁ s₁ le₁ sm₁ r₁=>j1.go hp.2 (a.up le₁ sm₁ r₁) hk
 ·induction es using Es.casesOn with
  |nil=>induction o using za with
   |true=>exact⟨Qn i1,VQ i2⟩
   |false=>exact⟨Qn i1,ZR i2⟩
  |cons e' es=>
   refine Aw (j2 (jO _) o p) fun k1 k2=>?_
   induction o using za with
   |true=>exact⟨Xe i1 k1,ZQ i2 k2⟩
   |false=>exact⟨aK i1 k1,fj i2 k2⟩
include O ok HC in
theorem QD(e:E):PE c C d S T e:=
 @E.rec (PE c C d S T) (Tg c C d S T) R4 (UT O ok) (YK O) (YQ O ok) (dS O) (dT O) (dU O) (dW O) (dR O) dQ YM YR UW YI (UX O) (UR O) (RZ O HC) (fun f es _=>R6 O HC f es) (R5 O HC) (YL O) (R0 O) (YS O) YN UY YO (YJ O ok) (fun q a j _=>US O q a j) UV (UU O) UZ R7 e
end
end
section
inductive IO(c:Cx)(R:Rec):Out→Flow→Prop
 |next:IO c R .next .next
 |brk:IO c R .brk .brk
 |cont:IO c R .cont .cont
 |ret {l:LV} {rv:Value} (h:LR c R l rv):IO c R (.ret l) (.ret rv)
structure XS(c:Cx)(f:Fx)(A:Around)(R:Rec)(s:Shared)(X:AN→St→Prop)(E:Value→Shared→Prop):Prop where
 xo:HT c f A R s X E
 po:PassesOwn (model c.prog c.w) A f.env E
theorem XS.up{c:Cx}{f:Fx}{A:Around}{R R':Rec}{s s':Shared}{X:AN→St→Prop}{E:Value→Shared→Prop}(h:XS c f A R s X E)(le:R.le R')(sm:An s s'):XS c f A R' s' X E:=⟨h.xo.up le sm,h.po⟩
noncomputable def PK(c:Cx)(C:Cfg)(d:Nat)(S:Sx)(ss:Ss)(xs:List Stmt):Prop:=
 ∀(f:Fx) (A:Around) (X:AN→St→Prop) (R:Rec) (σ:St) (s:Shared) (K:Out→St→Prop),At c S d f A X R σ s→Au C X ss K σ→
  ∀(Ev:Value→Shared→Prop) (Q:Flow→Shared→Prop),XS c f A R s X Ev→(∀o σ' R' fl s',R.le R'→An s s'→K o σ'→Ap c f R' σ' s'.heap→IO c R' o fl→Q fl s')→wpAny (model c.prog c.w) A (execs xs f.env) Q Ev s
noncomputable def Hs(c:Cx)(C:Cfg)(d:Nat)(S:Sx)(st:Ag.S)(x:Stmt):Prop:=
 ∀(f:Fx) (A:Around) (X:AN→St→Prop) (R:Rec) (σ:St) (s:Shared) (K:Out→St→Prop),At c S d f A X R σ s→mh C X st K σ→
  ∀(Ev:Value→Shared→Prop) (Q:Flow→Shared→Prop),XS c f A R s X Ev→(∀o σ' R' fl s',R.le R'→An s s'→K o σ'→Ap c f R' σ' s'.heap→IO c R' o fl→Q fl s')→wpAny (model c.prog c.w) A (exec x f.env) Q Ev s
noncomputable def CK(x:PySem.Expr):Bool:=Nat.ble 8 x.ctorIdx && Nat.ble x.ctorIdx 10
theorem CA{x:PySem.Expr}{t:Option PySem.Expr}{l:Nat}{env:Env}(h:CK x=false):swapsWith x t l env=pure false:=by
 cases x <;>first |rfl |cases h
theorem Oh{ts:List PySem.Expr}{x:PySem.Expr}{l:Nat}{env:Env}(h:CK x=false):swapsWithSole ts x l env=pure false:=by
 induction ts using zo with
 |nil=>rfl
 |cons t r=>induction r using zo with
  |nil=>exact CA h
  |cons _ _=>rfl
section
variable {c:Cx}{C:Cfg}{S:Sx}{d:Nat}{f:Fx}{A:Around}{X:AN→St→Prop}{R R':Rec}{σ σ':St}{s s':Shared}{m:Str→Option Value}{led:List (Addr×Obj)}{Ev:Value→Shared→Prop}
noncomputable def St.SF(σ:St):T→LV→St
 | .loc k,v=>σ.BB k v
 | .sat k,v=>σ.SE k v
noncomputable def V9(c:Cx)(S:Sx)(t:T)(x:PySem.Expr):Prop:=
 (∀{d:Nat} {f:Fx} {A:Around} {X:AN→St→Prop} {R:Rec} {σ:St} {s:Shared} {Ev:Value→Shared→Prop},At c S d f A X R σ s→∀(v:LV) (rv:Value),LR c R v rv→∀(Q:Unit→Shared→Prop),(∀s',An s s'→Ap c f R (σ.SF t v) s'.heap→Q () s')→
  wpAny (model c.prog c.w) A (assign x f.env rv) Q Ev s)∧∀xs env,assignEach (x::xs) env=(false,assign x env)::assignEach xs env
noncomputable def IQ(c:Cx)(S:Sx):List T→List PySem.Expr→Prop
 |[],[]=>True
 |t::ts,x::xs=>V9 c S t x∧IQ c S ts xs
 |_,_=>False
theorem ZO{k:Nat}{n:Str}{p:Pos}(h:S.names[k]? =some n)(hf:S.cs.names.lookup n≠some .free):V9 c S (.loc k) (.Name n p):=by
 refine⟨fun a v rv hv Q hq=>?_,fun _ _=>rfl⟩
 refine Av a.r fun m led r=>?_
 exact wpAny_assign_Name (Br a.G a.NM r (by rw[a.names];exact h) (by rw[a.cs];exact hf) hv hq)
theorem ZP(ok:Dy c){k:Nat}{n:Str}{p q:Pos}(hm:S.Af=true)(hk:S.cs.names.lookup c.self=some .local)(hd:(c.self==("__debug__":Str))=false)(h:c.attrs[k]? =some n):V9 c S (.sat k) (.Attribute (.Name c.self p) n q):=by
 refine⟨fun a v rv hv Q hq=>?_,fun _ _=>rfl⟩
 refine Av (NJ a hm) fun x dx hsd=>?_
 rw[assign_Attribute]
 refine zj (jw (E0 a hsd hk hd ?_))
 refine zj (Ji (zj (jw (Oe ok a hsd h hv fun s' sm r'=>?_))))
 exact fun Γ p hΓ=>by rw[Sem.wp_release];exact hq s' sm r'
theorem FX{t:T}{ts:List T}{v:LV}{vs:List LV}{σ σ₁:St}(h:stores (t::ts) (v::vs) σ=some σ₁):stores ts vs (σ.SF t v)=some σ₁:=by cases t <;>exact h
theorem IB{t:T}{ts:List T}{σ σ₁:St}{P:Prop}(h:stores (t::ts) [] σ=some σ₁):P:=by cases t <;>exact nz h
theorem Nk:∀{ts:List T} {xs:List PySem.Expr},IQ c S ts xs→∀{vs:List Val} {rvs:List Value} {σ σ₁:St} {s:Shared},At c S d f A X R σ s→c.Vs R vs rvs→stores ts (Yo vs) σ=some σ₁→
  ∀{Q:Unit→Shared→Prop},(∀s',An s s'→Ap c f R σ₁ s'.heap→Q () s')→wpAny (model c.prog c.w) A (assignInOrder (xs.map fun x=>assign x f.env) rvs) Q Ev s
 |[],[],_,[],rvs,σ,σ₁,s,a,hv,h,Q,hq=>by
  rw[AU.C7 hv,←ze h]at*
  exact zF (hq s (.refl s) a.r)
 |[],[],_,_::_,_,_,_,_,_,_,h,_,_=>nz h
 |t::ts,_::_,_,[],_,_,_,_,_,_,h,_,_=>IB h
 |t::ts,x::xs,⟨ht,hts⟩,v::vs,rvs,σ,σ₁,s,a,hv,h,Q,hq=>by
  refine Aq (AU.A9 hv) fun rv us hq2 h1 h2=>?_;subst hq2
  refine zj (jw (ht.1 a _ _ (.v h1) _ fun s' sm r'=>?_))
  exact Nk hts (a.up (.refl R) sm r') h2 (FX h) fun s'' sm' r''=>hq s'' (sm.trans sm') r''
 |[],_::_,ht,_,_,_,_,_,_,_,_,_,_=>ht.elim
 |_::_,[],ht,_,_,_,_,_,_,_,_,_,_=>ht.elim
theorem DD{env:Env}:∀{ts:List T} {xs:List PySem.Expr},IQ c S ts xs→(assignEach xs env).map (fun p=>p.2)=xs.map (fun x=>assign x env)∧(assignEach xs env).findIdx? (fun p=>p.1)=none∧(assignEach xs env).length=xs.length
 |[],[],_=>⟨rfl,rfl,rfl⟩
 |t::ts,x::xs,⟨ht,hts⟩=>by
  refine Bx (DD (env:=env) hts) fun h1 h2 h3=>?_
  rw[ht.2]
  refine⟨by rw[JA,h1,JA],?_,by rw[zK,h3,zK]⟩
  rw[List.findIdx?_cons,h2]
  rfl
 |[],_::_,ht=>ht.elim
 |_::_,[],ht=>ht.elim
theorem Ey:∀{ts:List T} {vs:List LV} {σ σ₁:St},stores ts vs σ=some σ₁→ts.length=vs.length
 |[],[],_,_,_=>rfl
 |[],_::_,_,_,h=>nz h
 |_::_,[],_,_,h=>IB h
 |t::ts,v::vs,σ,σ₁,h=>zy (· +1) (Ey (FX h))
theorem IQ.len:∀{ts:List T} {xs:List PySem.Expr},IQ c S ts xs→ts.length=xs.length
 |[],[],_=>rfl
 |_::_,_::_,h=>zy (· +1) (IQ.len h.2)
 |[],_::_,h=>h.elim
 |_::_,[],h=>h.elim
theorem J4:∀vs:List Val,(Yo vs).length=vs.length
 |[]=>rfl
 |_::r=>zy (· +1) (J4 r)
theorem items(a:At c S d f A X R σ s){tup:Bool}{xs:List Val}{rv:Value}{n:Nat}(hx:VH c R s.heap (.seq tup xs) rv)(hn:n=xs.length){Q:List Value→Shared→Prop}
  (hq:∀vs s',An s s'→Ap c f R σ s'.heap→c.Vs R xs vs→Q vs s'):wpAny (model c.prog c.w) A (unpackItems rv n none) Q Ev s:=by
 refine Av a.r fun m led r=>?_
 refine AD (hx.seq r) fun ad vs k hq3 hg hl hs=>?_;subst hq3
 have hsz:n=vs.toArray.size:=by rw[zL,hs.length];exact hn
 induction tup using za with
 |true=>exact unpackItemsN_ r.F r.N (Rg hg) a.G.hh hsz fun h' F N=>hq _ _ AK ⟨m,led,r.heap F N⟩ hs
 |false=>exact kun_items r.F r.N (Ai hg) a.G.hh hsz fun h' F N=>hq _ _ AK ⟨m,led,r.heap F N⟩ hs
theorem S9{ts:List T}{xs:List PySem.Expr}(ht:IQ c S ts xs)(a:At c S d f A X R σ s){tup:Bool}{vs:List Val}{rv:Value}{σ₁:St}(hv:c.V R (.seq tup vs) rv)(h:stores ts (Yo vs) σ=some σ₁)
  {Q:Unit→Shared→Prop} (hq:∀s',An s s'→Ap c f R σ₁ s'.heap→Q () s'):wpAny (model c.prog c.w) A (unpack rv (assignEach xs f.env)) Q Ev s:=by
 refine Bx (DD (env:=f.env) ht) fun h1 h2 h3=>?_
 unfold unpack
 rw[h1,h2,h3]
 refine zj (jw (items a (.of hv) ?_ fun rvs s' sm r' hvs=>?_))
 ·rw[←ht.len,Ey h,J4]
 ·exact Nk ht (a.up (.refl R) sm r') hvs h fun s'' sm' r''=>hq s'' (sm.trans sm') r''
end
end
section
structure Rec.HJ(R R':Rec):Prop where
 ρ:∃t,R'.ρ=R.ρ++t
 zs:∀p∈R.zs,p∈R'.zs
theorem Rec.le.v{R R':Rec}(h:R.le R'):R.HJ R':=⟨h.ρ,h.zs⟩
theorem Rec.HJ.refl(R:Rec):R.HJ R:=⟨⟨[],by simp⟩,fun _ h=>h⟩
theorem chain{R l t:List Addr}(h1:∃a,l=R++a)(h2:∃b,t=l++b):∃b,t=R++b:=
 zg h1 fun a e1=>zg h2 fun b e2=>⟨a++b,e2.trans (e1▸zl R a b)⟩
theorem Rec.HJ.trans{R R' R'':Rec}(a:R.HJ R')(b:R'.HJ R''):R.HJ R'':=by
 exact⟨chain a.ρ b.ρ,fun p h=>b.zs p (a.zs p h)⟩
theorem V.l8{c:Cx}{R R':Rec}(h:R.HJ R'){x:Val}{v:Value}(y:c.V R x v):c.V R' x v:=VR.mono (fun _ _ z=>z.imp id fun z=>h.zs _ z) h.ρ y
structure HS(c:Cx)(A:Around)(target:PySem.Expr)(I:Addr)(fp wr:List Addr)(xs:List Val)(St:Nat→Heap→Prop)(R₀:Rec):Prop where
 sub:∀b∈wr,b∈fp
 nd:wr.Nodup
 pres:∀i h,St i h→∀b∈wr,(h.get? b).isSome=true
 frame:∀i h h',St i h→(∀b∈fp,∀o,h.get? b=some o→h'.get? b=some o)→St i h'
 item:∀(i:Nat) (x:Val) (s:Shared) (Q:Value→Shared→Prop) (E:Value→Shared→Prop),xs[i]? =some x→St i s.heap→
  (∀(v:Value) (h':Heap) (tk:Nat) (nw:Option (Addr×Obj)),St (i+1) h'→(∀b o,b∉wr→s.heap.get? b=some o→h'.get? b=some o)→(∀p,nw=some p→h'.get? p.1=some p.2∧s.heap.objs.size≤p.1∧p.1∉wr)→
   (∀R',R₀.HJ R'→(∀p,nw=some p→p∈R'.zs)→c.V R' x v)→Q v {s with heap:=h',toks:=tk})→
  wpAny (model c.prog c.w) A (pyNext (.ref I)) (fun r s₁=>∃v,r=some v∧wpAny (model c.prog c.w) A (letOwnedTupleGo target (.ref I) v) (fun _ s₂=>Q v s₂) E s₁) E s
 done:∀(s:Shared) (Q:Option Value→Shared→Prop) (E:Value→Shared→Prop),St xs.length s.heap→
  (∀h' tk,(∀b o,b∉wr→s.heap.get? b=some o→h'.get? b=some o)→Q none {s with heap:=h',toks:=tk})→wpAny (model c.prog c.w) A (pyNext (.ref I)) Q E s
section
variable {c:Cx}{C:Cfg}{S:Sx}{d:Nat}{f:Fx}{A:Around}{X:AN→St→Prop}{R R' R₀:Rec}{σ σ':St}{s s':Shared}{m:Str→Option Value}{led own:List (Addr×Obj)}{Ev:Value→Shared→Prop}{h h':Heap}{wr:List Addr}
noncomputable def Rec.El(R:Rec)(ex:List (Addr×Obj)):Rec:=⟨R.ρ,R.ω,R.zs,ex,R.sd⟩
theorem LR.El{l:LV}{rv:Value}{ex:List (Addr×Obj)}(h:LR c R l rv):LR c (R.El ex) l rv:=by
 induction h using LR.casesOn with
 |v y=>exact .v y
 |loc e=>exact .loc e
 |app e q=>exact .app e q
 |cb z=>exact .cb (Mb.mono (R:=R) (R':=R.El ex) (fun _ h=>h) ⟨[],(zE _).symm⟩ z)
theorem LR.Ly{l:LV}{rv:Value}{ex:List (Addr×Obj)}(h:LR c (R.El ex) l rv):LR c R l rv:=by
 induction h using LR.casesOn with
 |v y=>exact .v y
 |loc e=>exact .loc e
 |app e q=>exact .app e q
 |cb z=>exact .cb (Mb.mono (R:=R.El ex) (R':=R) (fun _ h=>h) ⟨[],(zE _).symm⟩ z)
theorem Ar.El{fs:List (Option LV)}{es:List DictEntry}{ex:List (Addr×Obj)}(y:Ar c R fs es):Ar c (R.El ex) fs es:=Ar.same (fun _ _ z=>z.El) y
theorem Ar.Ly{fs:List (Option LV)}{es:List DictEntry}{ex:List (Addr×Obj)}(y:Ar c (R.El ex) fs es):Ar c R fs es:=Ar.same (fun _ _ z=>z.Ly) y
theorem Rel.Xc(r:Rel c f R σ h m led)(hn:(own.map fun p:Addr×Obj=>p.1).Nodup)(ho:∀p∈own,h.get? p.1=some p.2∧p.1≠f.L∧f.h₀.get? p.1=none)(hd:∀p∈own,∀q∈led,p.1≠q.1):
  Rel c f (R.El (own++R.ex)) σ h m (own++led):=by
 have mk:∀a,F6 f (R.El (own++R.ex)) a→F6 f R a:=fun a h=>h
 have ne:∀a,F6 f R a→∀p∈own,p.1≠a:=fun a ha p hp e=>by
  refine Aa (zA.mp (r.ml a ha)) fun q hq e'=>?_
  exact hd p hp q hq (e.trans e'.symm)
 refine{F:=r.F,N:=fun p hp=>?_,nd:=?_,slots:=fun k n v hk hv=>?_,clo:=fun n a ha=>?_,self:=fun x dx e=>?_,self0:=r.self0,ml:=fun a ha=>?_,hlen:=r.hlen,cells:=fun j ce hj hc=>?_,oln:=r.oln,owns:=fun k xs hk=>?_,zs:=fun p hp=>zi _ (r.zs p hp),ex:=fun p hp=>?_,D1:=r.D1,D2:=r.D2,D3:=fun a ha p hp=>?_,D4:=fun p hp q hq=>?_,B:=r.B}
 ·rcases zt.mp hp with hp |hp
  ·exact ho p hp
  ·exact r.N p hp
 ·rw[jh,zZ]
  refine⟨hn,r.nd,fun a ha b hb e=>?_⟩
  refine Aa (zA.mp ha) fun p hp hq2=>?_;subst hq2
  refine Aa (zA.mp hb) fun q hq hq2=>?_;subst hq2
  exact hd p hp q hq e
 ·exact BF (fun a o a1 a2=>zi _ a2) (fun _ b=>b.El) (r.slots k n v hk hv)
 ·refine AH (r.clo n a ha) fun o v a1 a2=>?_
  exact⟨o,v,zi _ a1,a2⟩
 ·obtain⟨a1,a2,es,n,a3,a4⟩:=r.self x dx e
  exact⟨a1,a2,es,n,zi _ a3,a4.El⟩
 ·rw[jh];exact zi _ (r.ml a ha)
 ·refine Aq (r.cells j ce hj hc) fun a o a1 a2 a3=>?_
  exact⟨a,o,a1,zi _ a2,Ct.imp (R:=R) (R':=R.El (own++R.ex)) (fun _ _ y=>y) a3⟩
 ·refine AD (r.owns k xs hk) fun a vs n a1 a2 a3 a4=>?_
  exact⟨a,vs,n,a1,zi _ a2,a3,a4⟩
 ·rcases zt.mp hp with hp |hp
  ·exact zk _ hp
  ·exact zi _ (r.ex p hp)
 ·rcases zt.mp hp with hp |hp
  ·exact r.D3 a ha p (zk _ hp)
  ·rcases zt.mp hp with hp |hp
   ·exact ne a ha p hp
   ·exact r.D3 a ha p (zi _ hp)
 ·rcases zt.mp hq with hq |hq
  ·exact fun e=>hd q hq p (r.zs p hp) e.symm
  ·exact r.D4 p hp q hq
theorem Rel.apart{ex:List (Addr×Obj)}(r:Rel c f (R.El (own++ex)) σ h m led)(hw:own.map (fun p:Addr×Obj=>p.1)=wr)(hx:∀p∈ex,p.1∉wr):Rel c f (R.El ex) σ h m (led.filter fun p=> !(wr.contains p.1)):=by
 have inw:∀{a},a∈wr→∃p∈own,p.1=a:=fun{a} h=>by rw[←hw]at h;exact zA.mp h
 have keep:∀{p:Addr×Obj},p∈led→p.1∉wr→p∈led.filter fun p=> !(wr.contains p.1):=fun{p} h1 h2=>z9.mpr ⟨h1,by rw[jk,zU h2];rfl⟩
 have mutw:∀{a},F6 f R a→a∉wr:=fun{a} ha hb=>by
  refine Aa (inw hb) fun p hp e=>?_
  exact r.D3 a ha p (zi _ (zk _ hp)) e
 refine{F:=r.F,N:=fun p hp=>r.N p (z9.mp hp).1,nd:=(List.Sublist.map _ List.filter_sublist).nodup r.nd,slots:=fun k n v hk hv=>?_,clo:=fun n a ha=>?_,self:=fun x dx e=>?_,self0:=r.self0,ml:=fun a ha=>?_,hlen:=r.hlen,cells:=fun j ce hj hc=>?_,oln:=r.oln,owns:=fun k xs hk=>?_,zs:=fun p hp=>?_,ex:=fun p hp=>keep (r.ex p (zi _ hp)) (hx p hp),D1:=r.D1,D2:=r.D2,D3:=fun a ha p hp=>?_,D4:=fun p hp q hq=>r.D4 p hp q (zi _ hq),B:=r.B}
 ·exact BF (fun a o a1 a2=>keep a2 (mutw (.inr (.inr (.inl (lookup_mem a1)))))) (fun _ b=>b.Ly.El) (r.slots k n v hk hv)
 ·refine AH (r.clo n a ha) fun o v a1 a2=>?_
  exact⟨o,v,keep a1 (mutw (.inr (.inr (.inl (lookup_mem ha))))),a2⟩
 ·obtain⟨a1,a2,es,n,a3,a4⟩:=r.self x dx e
  exact⟨a1,a2,es,n,keep a3 (mutw (.inr (.inr (.inr ⟨x,e⟩)))),a4.Ly.El⟩
 ·refine Aa (zA.mp (r.ml a ha)) fun p hp e=>?_
  exact zA.mpr ⟨p,keep hp (by rw[e];exact mutw ha),e⟩
 ·refine Aq (r.cells j ce hj hc) fun a o a1 a2 a3=>?_
  exact⟨a,o,a1,keep a2 (mutw (.inl (Az a1))),Ct.imp (R:=R.El (own++ex)) (R':=R.El ex) (fun _ _ y=>y) a3⟩
 ·refine AD (r.owns k xs hk) fun a vs n a1 a2 a3 a4=>?_
  exact⟨a,vs,n,a1,keep a2 (mutw (.inr (.inl (Az a1)))),a3,a4⟩
 ·refine keep (r.zs p hp) fun hb=>?_
  refine Aa (inw hb) fun q hq e=>?_
  exact r.D4 p hp q (zk _ hq) e.symm
 ·rcases zt.mp hp with hp |hp
  ·exact r.D3 a ha p (zk _ hp)
  ·exact r.D3 a ha p (zi _ (zi _ hp))
noncomputable def ownOf(wr:List Addr)(h:Heap):List (Addr×Obj):=wr.filterMap fun b=>(h.get? b).map fun o=>(b,o)
theorem GZ{h:Heap}:∀{wr:List Addr},(∀b∈wr,(h.get? b).isSome=true)→(ownOf wr h).map (fun p:Addr×Obj=>p.1)=wr
 |[],_=>rfl
 |b::r,hp=>by
  refine zg (Jr.mp (hp b (.head _))) fun o ho=>?_
  have ih:=GZ (wr:=r) fun b' hb=>hp b' (.tail _ hb)
  unfold ownOf at ih ⊢
  rw[JP,ho]
  simp only[Option.map_some,JA,ih]
theorem Io{h:Heap}{wr:List Addr}{p:Addr×Obj}(hp:p∈ownOf wr h):p.1∈wr∧h.get? p.1=some p.2:=by
 unfold ownOf at hp
 refine Aa (List.mem_filterMap.mp hp) fun b hb e=>?_
 induction q:h.get? b using zh with
 |none=>rw[q]at e;cases e
 |some o=>rw[q]at e;cases e;exact⟨hb,q⟩
structure LoopAt(c:Cx)(S:Sx)(d:Nat)(f:Fx)(A:Around)(X:AN→St→Prop)(wr:List Addr)(R:Rec)(σ:St)(s:Shared):Prop where
 a:At c S d f A X R σ s
 off:∃m led,Rel c f R σ s.heap m led∧∀p∈led,p.1∉wr
theorem fr_but{h h':Heap}(F:Fr f.h₀ f.L h m)(hL:f.L∉wr)(hw:∀b∈wr,f.h₀.get? b=none)(hk:∀b o,b∉wr→h.get? b=some o→h'.get? b=some o):Fr f.h₀ f.L h' m:=by
 refine DS F.ns fun oL a1 a2 hoL a3=>?_
 refine⟨⟨oL,a1,a2,hk _ _ hL hoL,a3⟩,fun b x e=>hk b x (fun hb=>?_) (F.keep b x e),F.above⟩
 rw[hw b hb]at e;cases e
theorem news_but{h h':Heap}(N:News f.h₀ f.L h led)(hl:∀p∈led,p.1∉wr)(hk:∀b o,b∉wr→h.get? b=some o→h'.get? b=some o):News f.h₀ f.L h' led:=
 fun p hp=>⟨hk _ _ (hl p hp) (N p hp).1,(N p hp).2.1,(N p hp).2.2⟩
noncomputable def PV(c:Cx)(S:Sx)(ts:List T)(target:PySem.Expr):Prop:=
 ∀{d:Nat} {f:Fx} {A:Around} {X:AN→St→Prop} {R:Rec} {σ σ₁:St} {s:Shared} {x:Val} {v:Value} {Ev:Value→Shared→Prop} {Q:Unit→Shared→Prop},At c S d f A X R σ s→c.V R x v→CW ts x σ=some σ₁→
  (∀s',An s s'→Ap c f R σ₁ s'.heap→Q () s')→wpAny (model c.prog c.w) A (assign target f.env v) Q Ev s
theorem HS.next{target:PySem.Expr}{I:Addr}{fp:List Addr}{xs:List Val}{Stt:Nat→Heap→Prop}(W:HS c A target I fp wr xs Stt R₀){i:Nat}{x:Val}{G:Option Value→Shared→Prop}{P:Value→Shared→Prop}{E:Value→Shared→Prop}(hx:xs[i]? =some x)(hst:Stt i s.heap)
  (hG:∀v s₁,wpAny (model c.prog c.w) A (letOwnedTupleGo target (.ref I) v) (fun _ s₂=>P v s₂) E s₁→G (some v) s₁)
  (k:∀(v:Value) (h':Heap) (tk:Nat) (nw:Option (Addr×Obj)),s.toks≤tk→Stt (i+1) h'→(∀b o,b∉wr→s.heap.get? b=some o→h'.get? b=some o)→(∀p,nw=some p→h'.get? p.1=some p.2∧s.heap.objs.size≤p.1∧p.1∉wr)→
   (∀R',R₀.HJ R'→(∀p,nw=some p→p∈R'.zs)→c.V R' x v)→P v {s with heap:=h',toks:=tk}):wpAny (model c.prog c.w) A (pyNext (.ref I)) G E s:=
 zW (wpAny_toks (W.item i x s (fun v s₂=>s.toks≤s₂.toks→P v s₂) E hx hst fun v h' tk nw b1 b2 b3 b4 ht=>k v h' tk nw ht b1 b2 b3 b4))
  (fun _ s₁ hr=>zg hr.1 fun v y=>y.1▸hG v s₁ (zW (wpAny_toks y.2) (fun _ _ h=>h.1 (zp hr.2 h.2)) fun _ _ h=>h.1)) fun _ _ h=>h.1
theorem S4{nw:Option (Addr×Obj)}(r:Rel c f R σ s.heap m led)(hoff:∀p∈led,p.1∉wr)(hL:f.L∉wr)(hwh:∀b∈wr,f.h₀.get? b=none)(hk:∀b o,b∉wr→s.heap.get? b=some o→h'.get? b=some o)
  (hnw:∀p,nw=some p→h'.get? p.1=some p.2∧s.heap.objs.size≤p.1∧p.1∉wr) {P:Prop} (k:∀R₁ led₁,R.le R₁→Rel c f R₁ σ h' m led₁→(∀p,nw=some p→p∈R₁.zs)→(∀p∈led₁,p.1∉wr)→P):P:=by
 have F':=fr_but r.F hL hwh hk
 have N':=news_but r.N hoff hk
 have r₁:=r.heap F' N'
 induction nw using zh with
 |none=>exact k R led (.refl R) r₁ (fun _ h=>nomatch h) hoff
 |some p=>
  refine Bx (hnw p rfl) fun g1 g2 g3=>?_
  have hlt:∀q∈led,q.1 < p.1:=fun q hq=>z4 (jD (r.N q hq).1) g2
  have hLn:p.1≠f.L:=DS r.F.ns fun oL _ _ hoL _=>Nat.ne_of_gt (z4 (jD hoL) g2)
  refine zg (r₁.frozen F' (a:=p.1) (o:=p.2) (fun q hq=>(zI.mp hq).elim (fun e=>e▸⟨g1,hLn,ktu_new r.F g2⟩) (N' q)) hlt) fun R₁ y=>k R₁ _ y.1 y.2.1 (fun q hq=>ze hq▸y.2.2.1) fun q hq=>?_
  exact(zI.mp hq).elim (fun e=>e▸g3) (hoff q)
theorem VU{R₁:Rec}{tk:Nat}{led₁:List (Addr×Obj)}(a:At c S d f A X R σ s)(le₁:R.le R₁)(r₁:Rel c f R₁ σ h' m led₁)(hoff:∀p∈led₁,p.1∉wr)(hL:f.L∉wr)(hwh:∀b∈wr,f.h₀.get? b=none)(hnd:wr.Nodup)(hkeys:(ownOf wr h').map (fun p:Addr×Obj=>p.1)=wr)(ht:s.toks≤tk):
  At c S d f A X (R₁.El (ownOf wr h'++R₁.ex)) σ {s with heap:=h',toks:=tk}:=
 ⟨a.G,a.NM,a.names,a.cs,by show R₁.sd.isSome=S.Af;rw[le₁.sd];exact a.Af,fun h=>z4 (a.pos h) ht,⟨m,_,r₁.Xc (own:=ownOf wr h') (by rw[hkeys];exact hnd) (fun p hp=>Aw (Io hp) fun q1 q2=>⟨q2,fun e=>hL (e▸q1),hwh _ q1⟩) fun p hp q hq e=>hoff q hq (e▸(Io hp).1)⟩⟩
theorem S6{R₁:Rec}{m':Str→Option Value}{led₁ led':List (Addr×Obj)}(a:At c S d f A X R σ s)(le₁:R.le R₁)(r₁:Rel c f R₁ σ h m led₁)(hoff:∀p∈led₁,p.1∉wr)(hkeys:own.map (fun p:Addr×Obj=>p.1)=wr)(le':(R₁.El (own++R₁.ex)).le R')(r':Rel c f R' σ' s'.heap m' led')(sm:An s s'):
  R.le (R'.El R₁.ex)∧LoopAt c S d f A X wr (R'.El R₁.ex) σ' s':=by
 have eex:R'.ex=own++R₁.ex:=le'.ex
 have eR:R'=R'.El (own++R₁.ex):=eex▸rfl
 have ra:=(show Rel c f (R'.El (own++R₁.ex)) σ' s'.heap m' led' from eR▸r').apart hkeys fun p hp=>hoff p (r₁.ex p hp)
 refine⟨⟨chain (R:=R.ρ) le₁.ρ le'.ρ,chain (R:=R.ω) le₁.ω le'.ω,fun p hp=>le'.zs p (le₁.zs p hp),le₁.ex,le'.sd.trans le₁.sd⟩,⟨a.G,a.NM,a.names,a.cs,?_,fun h=>z4 (a.pos h) sm.tk,⟨m',_,ra⟩⟩,⟨m',_,ra,fun p hp hb=>?_⟩⟩
 ·show R'.sd.isSome=S.Af;rw[le'.sd.trans le₁.sd];exact a.Af
 ·exact absurd (z9.mp hp).2 (by rw[jk,ja hb];exact nofun)
theorem M5{R₁:Rec}{fp:List Addr}{ex:List (Addr×Obj)}{m':Str→Option Value}{led₁ led':List (Addr×Obj)}(r₁:Rel c f R₁ σ h m led₁)(le':(R₁.El (ownOf wr h++ex)).le R')(r':Rel c f R' σ' h' m' led')(hfix:∀b∈fp,b∉wr→∃o,c.Z R₁ b o):∀b∈fp,∀o,h.get? b=some o→h'.get? b=some o:=fun b hb o ho=>by
 by_cases hw:b∈wr
 ·exact r'.BE (r'.ex _ (by rw[show R'.ex=_ from le'.ex];exact zk _ (List.mem_filterMap.mpr ⟨b,hw,by rw[ho];rfl⟩)))
 ·refine zg (hfix b hb hw) fun o' ho'=>?_
  rw[ze (ho.symm.trans (r₁.get ho'))]
  exact r'.get (ho'.imp id fun z=>le'.zs _ z)
theorem Yg{R₁:Rec}(le:R.le R₁):R.Lm (R₁.El (own++R₁.ex)):=⟨le.ρ,le.zs,fun p hp=>zi _ (le.ex▸hp),le.sd⟩
noncomputable def LI(c:Cx)(S:Sx)(d:Nat)(f:Fx)(A:Around)(X:AN→St→Prop)(wr:List Addr)(R₀ Rs:Rec)(ss:Shared)(Stt:Nat→Heap→Prop)(l:Nat)(F:Nat→St→Prop)(n:Nat)(s:Shared):Prop:=
 ∃i R σ,n+i=l∧R₀.HJ R∧Rs.le R∧An ss s∧LoopAt c S d f A X wr R σ s∧Stt i s.heap∧F i σ
theorem OU{target:PySem.Expr}{I:Addr}{fp wr:List Addr}{xs:List Val}{Stt:Nat→Heap→Prop}{ts:List T}{b:Ss}{body:List Stmt}{R₀:Rec}(W:HS c A target I fp wr xs Stt R₀)(hT:PV c S ts target)(hB:PK c C d S b body)
  (hL:f.L∉wr) (hwh:∀b∈wr,f.h₀.get? b=none) (hfix:∀R,R₀.HJ R→∀b∈fp,b∉wr→∃o,c.Z R b o) {K:Out→St→Prop} {Rs:Rec} {ss:Shared} {Q:Flow→Shared→Prop}
  (xs':XS c f A Rs ss X Ev) (hq:∀o σ' R' fl s',Rs.le R'→An ss s'→K o σ'→Ap c f R' σ' s'.heap→IO c R' o fl→Q fl s'):
  ∀(n i:Nat) (R:Rec) (σ:St) (s:Shared),n+i=xs.length→R₀.HJ R→Rs.le R→An ss s→LoopAt c S d f A X wr R σ s→Stt i s.heap→forL (CW ts) (Au C X b) K (xs.drop i) σ→
   codeAny (model c.prog c.w) A (.forLoop target (.ref I) body [] f.env) (fun r s'=>match r with | .ok fl=>Q fl s' | .error e=>cameBackBy (model c.prog c.w) A f.env Ev e s') s:=by
 refine fun n i R σ s hn h0 hRs hss hla hst hfor=>codeAny_forLoop_any (LI c S d f A X wr R₀ Rs ss Stt xs.length fun i=>forL (CW ts) (Au C X b) K (xs.drop i)) ?_ n ⟨i,R,σ,hn,h0,hRs,hss,hla,hst,hfor⟩
 clear hn h0 hRs hss hla hst hfor i R σ s n
 refine fun n s h=>fG h fun i R σ hn h0 hRs hss hla hst hfor=>AH hla.off fun m led r hoff=>?_
 replace hfor:forL (CW ts) (Au C X b) K (xs.drop i) σ:=hfor
 induction n using zz with
 |zero=>
  have hi:i=xs.length:=(jr i).symm.trans hn
  rw[hi,jn (zu _)]at hfor
  refine CQ (W.done s _ _ (hi▸hst) fun h' tk hk ht=>?_)
  refine wpAny_execs_nil ?_
  exact hq .next σ R .next _ hRs (hss.trans (Al ht)) hfor ⟨m,led,r.heap (fr_but r.F hL hwh hk) (news_but r.N hoff hk)⟩ .next
 |succ n=>
  have hi:i < xs.length:=hn▸(Nat.lt_add_of_pos_left (jO n))
  rw[j3 hi]at hfor
  refine Aa (Ad hfor) fun σ₁ hσ₁ hbody=>?_
  refine W.next (jq hi) hst (fun v s₁ h=>h) fun v h' tk nw ht hst' hk hnw hV=>?_
  refine S4 r hoff hL hwh hk hnw fun R₁ led₁ le₁ r₁ hz₁ hoff₁=>?_
  have hkeys:=GZ (wr:=wr) (h:=h') (W.pres _ _ hst')
  have h01:R₀.HJ R₁:=h0.trans le₁.v
  have at₂:=VU hla.a le₁ r₁ hoff₁ hL hwh W.nd hkeys ht
  refine hT at₂ (hV R₁ h01 hz₁) hσ₁ fun s₃ sm₃ r₃=>?_
  refine wpAny_passesOwn xs'.po (hB f A X _ σ₁ s₃ _ (at₂.up (.refl _) sm₃ r₃) hbody _ _ ⟨xs'.xo.l9 (hRs.x.trans (Yg le₁)) (hss.trans ((Al ht).trans sm₃)),xs'.po⟩ fun o σ' R' fl s' le' sm' hk' r' hfl=>?_)
  refine Av r' fun m' led' r'=>?_
  have smm:=(Al ht).trans (sm₃.trans sm')
  refine Aw (S6 hla.a le₁ r₁ hoff₁ hkeys le' r' smm) fun leR lat=>?_
  have again:forL (CW ts) (Au C X b) K (xs.drop (i+1)) σ'→∃m,m < n+1∧LI c S d f A X wr R₀ Rs ss Stt xs.length (fun i=>forL (CW ts) (Au C X b) K (xs.drop i)) m s':=fun hf=>
   ⟨n,zS _,i+1,R'.El R₁.ex,σ',(Nat.succ_add_eq_add_succ n i).symm.trans hn,h01.trans ⟨le'.ρ,le'.zs⟩,hRs.trans leR,hss.trans smm,lat,W.frame (i+1) h' s'.heap hst' (M5 r₁ le' r' (hfix R₁ h01)),hf⟩
  have leR:=hRs.trans leR
  have smm:=hss.trans smm
  have rx:=lat.a.r
  induction hfl using IO.casesOn with
  |next=>exact again hk'
  |cont=>exact again hk'
  |brk=>exact hq .next σ' _ .next s' leR smm hk' rx .next
  |ret hl=>exact hq (.ret _) σ' _ (.ret _) s' leR smm hk' rx (.ret hl.Ly.El)
end
end
section
section
variable {c:Cx}{C:Cfg}{S:Sx}{d:Nat}{f:Fx}{A:Around}{X:AN→St→Prop}{R R' R₀:Rec}{σ σ':St}{s s':Shared}{m:Str→Option Value}{led own:List (Addr×Obj)}{Ev:Value→Shared→Prop}{h h':Heap}{wr:List Addr}
theorem RM{b I:Addr}(h:b∉[I]):b≠I:=fun e=>h (e▸ .head _)
theorem kW{I:Addr}:[I].Nodup:=.cons (fun _ h=>nomatch h) .nil
theorem gL{α β:Type}{xs:List α}{vs:List β}(h:vs.length=xs.length):vs.toArray[xs.length]? =none:=z8.trans (Jy (Jn h))
theorem LF{target:PySem.Expr}{I:Addr}{o:Obj}{n:String}{v:Value}{Q:Unit→Shared→Prop}(ho:s.heap.get? I=some o)(hc:o.cls=.type n)
  (hn:["enumerate","zip","dict_itemiterator","dict_reverseitemiterator","odict_iterator","itertools.zip_longest","itertools.pairwise"].contains n=false) (h:Q () s):
  wpAny (model c.prog c.w) A (letOwnedTupleGo target (.ref I) v) Q Ev s:=by
 unfold letOwnedTupleGo
 have go:∀(a:Addr),v=.ref a→wpAny (model c.prog c.w) A (do
   let o ←load I
   match o.cls,o.data with
   | .type n,.fields vs=>
    if["enumerate","zip","dict_itemiterator","dict_reverseitemiterator","odict_iterator","itertools.zip_longest","itertools.pairwise"].contains n && vs[0]? ==some (rawInt a)then
     rule "for.unpacks-the-owned-tuple"
     updateField I 0 .none
   |_,_=>pure ()) Q Ev s:=by
  intro a _
  refine zj (wpAny_load ho ?_)
  obtain⟨oc,od,odt,os⟩:=o
  simp only at hc
  subst hc
  cases odt <;>first |exact zF h |(simp only[hn,Bool.false_and];exact zF h)
 cases target <;>first
  |exact zF h
  |(cases v <;>first |exact zF h |exact go _ rfl)
theorem M6(hh:A.handled=none){target:PySem.Expr}{I l:Addr}{xs:List Val}{vs:List Value}(hv:c.Vs R₀ xs vs)(hne:l≠I):
  HS c A target I [I,l] [I] xs (fun i h=>h.IsListIter I l i∧h.IsList l vs.toArray) R₀ where
 sub:=fun b hb=>by rw[zG.mp hb];exact .head _
 nd:=kW
 pres:=fun i h st b hb=>by
  rw[zG.mp hb]
  refine Aa st.1 fun o ho _=>?_
  rw[ho];rfl
 frame:=fun i h h' st hk=>by
  refine Aa st.1 fun o ho r=>Aa st.2 fun o2 ho2 r2=>?_
  exact⟨⟨o,hk I (.head _) o ho,r⟩,⟨o2,hk l (.tail _ (.head _)) o2 ho2,r2⟩⟩
 item:=fun i x s Q E hx st hq=>by
  refine Aw st fun it il=>?_
  refine Aa (hv.get hx) fun rv e1 e2=>?_
  refine wpAny_pyNext_list_item it il (x:=rv) (z8.trans e1) fun h' it' sb=>?_
  refine⟨rv,rfl,?_⟩
  refine BZ it' fun o ho hc _=>?_
  refine LF (s:={s with heap:=h'}) ho hc (by decide) ?_
  refine Aa il fun o2 ho2 r2=>?_
  refine hq rv h' s.toks none ⟨⟨o,ho,hc,by assumption⟩,⟨o2,(sb.2 l hne).trans ho2,r2⟩⟩ (fun b o hb e=>(sb.2 b (RM hb)).trans e) (fun _ h=>nomatch h) fun R' le _=>V.l8 le e2
 done:=fun s Q E st hq=>by
  refine Aw st fun it il=>?_
  refine wpAny_pyNext_list_end hh it il (gL hv.length) fun h' ex=>?_
  exact hq h' s.toks fun b o hb e=>ex b o (RM hb) e
theorem MS{n:Nat}:∀{a i:Nat} {x:Val},(Er a n)[i]? =some x→i < n∧x=.int (Int.ofNat (a+i)):=by
 induction n with
 |zero=>exact fun h=>nomatch (js.symm.trans h:none=some _)
 |succ n ih=>
  intro a i x h
  induction i using zz with
  |zero=>exact⟨jO n,(ze h).symm⟩
  |succ i=>
   have q:=ih (a:=a+1) (i:=i) h
   exact⟨Nat.succ_lt_succ q.1,q.2.trans (zy (fun z=>Val.int (Int.ofNat z)) (jM a 1 i))⟩
theorem G6(n:Nat):∀a:Nat,(Er a n).length=n:=by
 induction n with
 |zero=>exact fun _=>rfl
 |succ n ih=>exact fun a=>zy (· +1) (ih (a+1))
theorem LY(hh:A.handled=none){target:PySem.Expr}{I:Addr}{a n:Nat}:
  HS c A target I [I] [I] (Er a n) (fun i h=>i≤n∧IsRangeIter h I ((a+i:Nat):Int) ((n - i:Nat):Int) 1) R₀ where
 sub:=fun b hb=>hb
 nd:=kW
 pres:=fun i h st b hb=>by
  rw[zG.mp hb,st.2];rfl
 frame:=fun i h h' st hk=>⟨st.1,hk I (.head _) _ st.2⟩
 item:=fun i x s Q E hx st hq=>by
  refine Aw (MS hx) fun h1 hq1=>?_;subst hq1
  refine wpAny_pyNext_range_item st.2 (by lia) fun h' it' sb=>?_
  refine⟨_,rfl,?_⟩
  refine LF (s:={s with heap:=h',toks:=s.toks+1}) it' rfl (by decide) ?_
  refine hq _ h' (s.toks+1) none ⟨h1,?_⟩ (fun b o hb e=>(sb.2 b (RM hb)).trans e) (fun _ h=>nomatch h) fun R' le _=>.int _ _
  have e1:((a+(i+1):Nat):Int)=((a+i:Nat):Int)+1:=by lia
  have e2:((n - (i+1):Nat):Int)=((n - i:Nat):Int) - 1:=by lia
  rw[e1,e2];exact it'
 done:=fun s Q E st hq=>by
  rw[G6]at st
  refine wpAny_pyNext_range_end hh st.2 (by lia) fun h' ex=>?_
  exact hq h' s.toks fun b o hb e=>ex b o (RM hb) e
end
end
section
noncomputable def fM(c:Cx)(C:Cfg)(d:Nat)(S:Sx)(target:PySem.Expr)(it:It)(iter:PySem.Expr):Prop:=
 ∀(f:Fx) (A:Around) (X:AN→St→Prop) (R:Rec) (σ:St) (s:Shared) (K:List Val→St→Prop),At c S d f A X R σ s→fD C X it K σ→∀(Ev:Value→Shared→Prop) (Q:Value→Shared→Prop),HT c f A R s X Ev→
  (∀xs σ₁ R₁ s₁ I fp wr Stt,R.le R₁→An s s₁→K xs σ₁→LoopAt c S d f A X wr R₁ σ₁ s₁→HS c A target I fp wr xs Stt R₁→f.L∉wr→(∀b∈wr,f.h₀.get? b=none)→(∀R',R₁.HJ R'→∀b∈fp,b∉wr→∃o,c.Z R' b o)→Stt 0 s₁.heap→Q (.ref I) s₁)→
  wpAny (model c.prog c.w) A (eval iter f.env) (fun x s₁=>wpAny (model c.prog c.w) A (pyIter x) Q Ev s₁) Ev s
section
variable {c:Cx}{C:Cfg}{S:Sx}{d:Nat}{f:Fx}{A:Around}{X:AN→St→Prop}{R R' R₀:Rec}{σ σ':St}{s s':Shared}{m:Str→Option Value}{led own:List (Addr×Obj)}{Ev:Value→Shared→Prop}{h h':Heap}{wr:List Addr}
theorem Cx.Z.HJ{R R':Rec}(h:R.HJ R'){a:Addr}{o:Obj}(z:c.Z R a o):c.Z R' a o:=z.imp id fun z=>h.zs _ z
theorem EU(a:At c S d f A X R σ s){h':Heap}(hk:∀b o,s.heap.get? b=some o→h'.get? b=some o){tk:Nat}(ht:s.toks≤tk)(hw:∀b∈wr,s.heap.objs.size≤b):
  LoopAt c S d f A X wr R σ {s with heap:=h',toks:=tk}∧f.L∉wr∧∀b∈wr,f.h₀.get? b=none:=by
 refine Av a.r fun m led r=>?_
 have F':Fr f.h₀ f.L h' m:=by
  refine DS r.F.ns fun oL a1 a2 hL a3=>?_
  exact⟨⟨oL,a1,a2,hk _ _ hL,a3⟩,fun b o' e=>hk _ _ (r.F.keep b o' e),r.F.above⟩
 have N':News f.h₀ f.L h' led:=r.N.grown hk
 have r':=r.heap F' N'
 refine⟨⟨a.up (.refl R) (Al ht) ⟨m,led,r'⟩,m,led,r',fun p hp hb=>?_⟩,fun hb=>?_,fun b hb=>ktu_new r.F (hw b hb)⟩
 ·exact absurd (jD (r.N p hp).1) (Nat.not_lt.mpr (hw _ hb))
 ·refine DS r.F.ns fun oL _ _ hL _=>?_
  exact absurd (jD hL) (Nat.not_lt.mpr (hw _ hb))
theorem Iu{h:Heap}(o:Obj):∀b o',h.get? b=some o'→(h.push o).get? b=some o':=fun _ _ e=>z6 _ e
theorem bq{target:PySem.Expr}{e:E}{x:PySem.Expr}(ie:AE c C d S e x):fM c C d S target (.of e) x:=by
 intro f A X R σ s K a h Ev Q xo hq
 refine ie.go a h Ev _ xo fun l σ₁ R₁ rv s₁ le sm hk r hl=>?_
 refine Aa (Am hk) fun v hv hk=>?_
 refine Aa (Ad hk) fun xs ev hk=>?_
 have hV:=AP hv hl
 rw[Yn ev]at hV
 have a₁:=a.up le sm r
 refine AD hV.inv fun ad vs n er hz hlen hvs=>?_
 rw[er]
 refine Av r fun m led r0=>?_
 refine BZ hz fun oo hzo hcls hdat=>?_
 have hget:=r0.get hzo
 have hL:s₁.heap.IsList ad vs.toArray:=⟨oo,hget,hcls,n,hdat⟩
 refine wpAny_pyIter_list hL ?_
 refine Bx (EU (wr:=[s₁.heap.objs.size]) (h':=s₁.heap.push {cls:=.type "list_iterator",data:=.fields #[.ref ad,.int 0 0]}) (tk:=s₁.toks) a₁ (Iu _) (zu _) (fun b hb=>by rw[zG.mp hb];exact zu _)) fun l1 l2 l3=>?_
 exact hq xs σ₁ R₁ _ _ _ _ _ le (sm.trans AK) hk l1 (M6 a.G.hh hvs (j5 (jD hget))) l2 l3 (fun R' hle b hb hnw=>(zI.mp hb).elim (fun e=>absurd e (RM hnw)) fun hb=>⟨oo,zG.mp hb▸hzo.HJ hle⟩) ⟨⟨_,Ja _ rfl,rfl,rfl⟩,hL.push _⟩
theorem Pr{j:Nat}(hj:j < AJ):Builtin.Range.small 0 (Int.ofNat j) 1=true:=by
 have hl:=Bk
 rw[show Int.ofNat j=(j:Int)from rfl]
 exact small_one (by decide) (by decide) (by lia) (by lia)
theorem rangeSize_nat(i j:Nat):Builtin.Range.rangeSize (Int.ofNat i) (Int.ofNat j) 1=((j - i:Nat):Int):=by
 unfold Builtin.Range.rangeSize
 have e1:Int.ofNat i=(i:Int):=rfl
 have e2:Int.ofNat j=(j:Int):=rfl
 rw[e1,e2]
 simp only[show(1:Int) >0 by decide,if_true,Int.ediv_one]
 split <;>lia
theorem OY{target:PySem.Expr}{e:E}{x:PySem.Expr}{p q:Pos}(i:AE c C d S e x)(b:Ma c S "range" (.type "range"))(hx:Ah x=true):fM c C d S target (.range1 e) (.Call (.Name "range" q) [x] [] p):=by
 intro f A X R σ s K a h Ev Q xo hq
 rw[AI]
 refine zj (IW a b ?_)
 refine PyProof.Rows.callWith_type1 (jf (i.go a h Ev _ xo fun l σ₁ R₁ rv s₁ le sm hk r hl=>jI ?_) (Ab hx)) (Ab hx) rfl
 refine Aa (Am hk) fun v hv hk=>?_
 refine Aa (Ad hk) fun j ev hk=>?_
 refine Aw (Bm hk) fun hj hk=>?_
 have a₁:=a.up le sm r
 have V1:=AP hv hl
 rw[RE ev]at V1
 refine zg V1.inv fun t e1=>?_
 rw[e1]
 refine call_range_1 ?_
 refine Av r fun m led r0=>?_
 have a₃:At c S d f A X R₁ σ₁ {s₁ with heap:=s₁.heap.push {cls:=.type "range",data:=.fields #[.int 0 s₁.toks,.int (Int.ofNat j) t,.int 1 (s₁.toks+1)]},toks:=s₁.toks+1+1}:=
  a₁.up (.refl _) (Al (zB _ 2)) ⟨m,led,r0.push _⟩
 have hsm:Builtin.Range.small 0 (Int.ofNat j) 1=true:=Pr (CC hj)
 refine wpAny_pyIter_range (Ja _ rfl) hsm ?_
 rw[show(0:Int)=Int.ofNat 0 from rfl,rangeSize_nat,Nat.sub_zero]
 refine Bx (EU (wr:=[(s₁.heap.push {cls:=.type "range",data:=.fields #[.int 0 s₁.toks,.int (Int.ofNat j) t,.int 1 (s₁.toks+1)]}).objs.size]) (h':=(s₁.heap.push {cls:=.type "range",data:=.fields #[.int 0 s₁.toks,.int (Int.ofNat j) t,.int 1 (s₁.toks+1)]}).push {cls:=.type "range_iterator",data:=.fields #[rawInt (Int.ofNat 0),rawInt (j:Int),rawInt 1]}) (tk:=s₁.toks+1+1) a₃ (Iu _) (zu _) (fun b hb=>by rw[zG.mp hb];exact zu _)) fun l1 l2 l3=>?_
 refine hq _ σ₁ R₁ _ _ _ _ _ le (sm.trans (Al (zB _ 2))) hk l1 (LY a.G.hh) l2 l3 (fun R' hle b hb hnw=>absurd hb hnw) ⟨zY _,?_⟩
 exact Ja _ rfl
end
end
section
set_option maxHeartbeats 4000000
section
variable {c:Cx}{C:Cfg}{S:Sx}{d:Nat}{f:Fx}{A:Around}{X:AN→St→Prop}{R R' R₀:Rec}{σ σ':St}{s s':Shared}{m:Str→Option Value}{led own:List (Addr×Obj)}{Ev:Value→Shared→Prop}{h h':Heap}{wr:List Addr}
variable {e e':E}{x y:PySem.Expr}{p q q':Pos}{n:Str}{a b:Ss}{xs ys:List Stmt}
theorem MY{t:T}{v:LV}{σ:St}:stores [t] [v] σ=some (σ.SF t v):=by cases t <;>rfl
theorem S5{t:T}(ht:V9 c S t x):PV c S [t] x:=by
 intro d f A X R σ σ₁ s xv v Ev Q a hv h hq
 have h':stores [t] [.v xv] σ=some σ₁:=h
 rw[MY]at h'
 rw[←ze h']at hq
 exact ht.1 a _ _ (.v hv) _ hq
theorem VF(t u:Txt):((⟨t.toArray⟩:Str)++⟨u.toArray⟩:Str)=⟨(t++u).toArray⟩:=zy Str.mk (List.append_toArray ..)
theorem Y6(r:Ap c f R σ s.heap){x y v:Val}{a b:Value}(hx:c.V R x a)(hy:c.V R y b)(h:WY x y=some v)(hsc:Cj x=true):AV c f A R σ s (inplaceOp .Add a b) v:=by
 induction x using Val.casesOn with
 |str t=>
  refine Aa (bS h) fun u ey q=>?_
  rw[ey]at hy
  have q1:=Cn (AO q).1
  rw[←(AO q).2]
  refine Aa hx.inv fun tk _ e=>Aa hy.inv fun uk _ e'=>?_
  rw[e,e']
  refine AV.plain r fun Ev Q hq=>iadd_str (fun t' tk=>?_) (by rw[Bw,Bw,←A6];exact q1)
  rw[VF]
  exact hq _ tk (.str _ _ (by rw[zd];exact q1))
 |_=>exact ft hsc
theorem Kr{t t':T}{v:LV}{σ:St}{P:St→Prop}(h:P (storeAll v [t,t'] σ)):P ((σ.SF t v).SF t' v):=by cases t <;>cases t' <;>exact h
theorem OG{n:Str}{v:Value}{Q:Unit→Shared→Prop}(h:wpAny (model c.prog c.w) A (storeName f.env n v) Q Ev s):wpAny (model c.prog c.w) A (bindName f.env n v) Q Ev s:=by
 unfold bindName
 refine zj (jw (wpAny_point (zj (zW h (fun _ s' hs=>wpAny_point hs) fun _ _ x=>x))))
theorem Le{f:Fx}(h:f.cs.kind=.function):interactive f.env=false:=by
 unfold interactive
 rw[h]
 rfl
noncomputable def Ns(c:Cx)(f:Fx)(R:Rec)(s:Shared)(K:Out→St→Prop)(Q:Flow→Shared→Prop):Prop:=
 ∀o σ' R' fl s',R.le R'→An s s'→K o σ'→Ap c f R' σ' s'.heap→IO c R' o fl→Q fl s'
theorem Ns.up{K:Out→St→Prop}{Q:Flow→Shared→Prop}(h:Ns c f R s K Q)(le:R.le R')(sm:An s s'):Ns c f R' s' K Q:=
 fun o σ' R'' fl s'' le' sm'=>h o σ' R'' fl s'' (le.trans le') (sm.trans sm')
theorem IO.RH{fl:Flow}(h:IO c R .next fl):fl=.next:=by cases h;rfl
theorem IO.aN{fl:Flow}(h:IO c R .brk fl):fl=.brk:=by cases h;rfl
theorem IO.Wn{fl:Flow}(h:IO c R .cont fl):fl=.cont:=by cases h;rfl
theorem IO.eC{l:LV}{fl:Flow}(h:IO c R (.ret l) fl):∃rv,fl=.ret rv∧LR c R l rv:=by cases h with |ret h=>exact⟨_,rfl,h⟩
theorem Hk(it:Ej c C d S e x)(ib:PK c C d S a xs)(io:PK c C d S b ys){K:Out→St→Prop}{Rs:Rec}{ss:Shared}{Q:Flow→Shared→Prop}(xs':XS c f A Rs ss X Ev)(hq:Ns c f Rs ss K Q):
  ∀(n:Nat) (R:Rec) (σ:St) (s:Shared),Rs.le R→An ss s→At c S d f A X R σ s→GQ (Kz C X e) (Au C X a) (Au C X b) K n σ→WhlRest c.prog c.w A Ev f.env x xs ys Q 0 s
 |0,_,_,_,_,_,_,h=>h.elim
 |n+1,R,σ,s,le,sm,at_,h=>by
  refine whl_turn (k:=0) xs'.po (it.go at_ h _ _ (xs'.xo.up le sm) fun bb σ₁ R₁ s₁ le₁ sm₁ hk r₁=>?_)
  have a₁:=at_.up le₁ sm₁ r₁
  have h1:=le.trans le₁
  have h2:=sm.trans sm₁
  induction bb using za with
  |true=>
   refine WhlIf.yes rfl (ib f A X R₁ σ₁ s₁ _ a₁ hk _ _ (xs'.up h1 h2) fun oo σ₂ R₂ fl s₂ le₂ sm₂ hk₂ r₂ hfl=>?_)
   have le':=h1.trans le₂
   have sm':=h2.trans sm₂
   induction oo using Out.casesOn with
   |next=>rw[hfl.RH];exact Hk it ib io xs' hq n R₂ σ₂ s₂ le' sm' (a₁.up le₂ sm₂ r₂) hk₂
   |cont=>rw[hfl.Wn];exact Hk it ib io xs' hq n R₂ σ₂ s₂ le' sm' (a₁.up le₂ sm₂ r₂) hk₂
   |brk=>rw[hfl.aN];exact hq .next σ₂ R₂ .next s₂ le' sm' hk₂ r₂ .next
   |ret l=>refine Aa hfl.eC fun rv hq1 _=>?_;subst hq1;exact hq (.ret _) σ₂ R₂ (.ret _) s₂ le' sm' hk₂ r₂ hfl
  |false=>exact WhlIf.no rfl (io f A X R₁ σ₁ s₁ _ a₁ hk _ _ (xs'.up h1 h2) (hq.up h1 h2))
theorem Zw{k:Nat}(hn:S.names[k]? =some n)(hf:S.cs.names.lookup n≠some .free)(hc:CK x=false)(i:AE c C d S e x):Hs c C d S (.asg k e) (.Assign [.Name n q] x p):=by
 intro f A X R σ s K a h Ev Q xs' hq
 refine wpAny_Assign_Name (i.go a h Ev _ xs'.xo fun l σ₁ R₁ rv s₁ le sm hk r hl=>?_) (CA hc)
 refine Av r ?_;clear r;intro m led r
 exact Br a.G a.NM r (by rw[a.names];exact hn) (by rw[a.cs];exact hf) hl fun s' sm' r'=>hq .next _ R₁ .next s' le (sm.trans sm') hk r' .next
theorem VD(ok:Dy c){k:Nat}(hm:S.Af=true)(hk:S.cs.names.lookup c.self=some .local)(hd:(c.self==("__debug__":Str))=false)(hn:c.attrs[k]? =some n)(hc:CK x=false)(i:AE c C d S e x):
  Hs c C d S (.sasg k e) (.Assign [.Attribute (.Name c.self q') n q] x p):=by
 intro f A X R σ s K a h Ev Q xs' hq
 refine plainObj_wpAny_Assign_Attribute (i.go a h Ev _ xs'.xo fun l σ₁ R₁ rv s₁ le sm hk' r hl=>?_) (CA hc)
 have a₁:=a.up le sm r
 refine Av (NJ a₁ hm) fun x dx hsd=>?_
 exact E0 a₁ hsd hk hd (Oe ok a₁ hsd hn hl fun s' sm' r'=>hq .next _ R₁ .next s' le (sm.trans sm') hk' r' .next)
theorem Vy{t t':T}{y y':PySem.Expr}(h1:V9 c S t y)(h2:V9 c S t' y')(hs:∀env,swappedStores [y,y'] x env=pure none)(i:AE c C d S e x):Hs c C d S (.asgs [t,t'] e) (.Assign [y,y'] x p):=by
 intro f A X R σ s K a h Ev Q xs' hq
 refine wpAny_Assign_two (i.go a h Ev _ xs'.xo fun l σ₁ R₁ rv s₁ le sm hk r hl=>?_) (by rw[h1.2,h2.2];rfl) (hs _)
 have a₁:=a.up le sm r
 refine h1.1 a₁ _ _ hl _ fun s₂ sm₂ r₂=>?_
 refine h2.1 (a₁.up (.refl _) sm₂ r₂) _ _ hl _ fun s₃ sm₃ r₃=>?_
 exact hq .next _ R₁ .next s₃ le ((sm.trans sm₂).trans sm₃) (Kr hk) r₃ .next
theorem lT{v:Val}{P:List Val→Prop}(h:match v with | .seq _ xs=>P xs |_=>False):∃t xs,v=.seq t xs∧P xs:=by
 induction v using Val.casesOn with
 |seq t xs=>exact⟨t,xs,rfl,h⟩
 |_=>exact h.elim
theorem ZD{ts:List T}{xs:List PySem.Expr}{k:Nat}(ht:IQ c S ts xs)(hc:CK x=false)(hs:∀env,swappedStores [.Tuple xs k q] x env=pure none)(i:AE c C d S e x):Hs c C d S (.unp ts e) (.Assign [.Tuple xs k q] x p):=by
 intro f A X R σ s K a h Ev Q xs' hq
 refine Assign_Tuple (i.go a h Ev _ xs'.xo fun l σ₁ R₁ rv s₁ le sm hk r hl=>?_) (Oh hc) (hs _)
 refine Aa (Am hk) fun v hv hk=>?_
 refine AH (lT hk) fun tup xs hq2 hk=>?_;subst hq2
 refine Aa (Ad hk) fun σ₂ hσ hk=>?_
 rw[arm_assign_Tuple]
 exact zj (Ji (S9 ht (a.up le sm r) (AP hv hl) hσ fun s' sm' r'=>hq .next σ₂ R₁ .next s' le (sm.trans sm') hk r' .next))
theorem Wh{k:Nat}{v:LV}{rv:Value}(a:At c S d f A X R σ s)(hn:S.names[k]? =some n)(hf:S.cs.names.lookup n≠some .free)(hv:LR c R v rv){Q:Unit→Shared→Prop}(hq:∀s',An s s'→Ap c f R (σ.BB k v) s'.heap→Q () s'):wpAny (model c.prog c.w) A (bindName f.env n rv) Q Ev s:=by
 refine Av a.r fun m led r=>?_
 exact OG (Br a.G a.NM r (by rw[a.names];exact hn) (by rw[a.cs];exact hf) hv hq)
theorem S7{i j:Nat}{xs:List Val}{σ₂:St}(h:stores [.loc j,.loc i] (Yo xs.reverse) σ=some σ₂):∃u v,xs=[u,v]∧σ₂=(σ.BB j (.v v)).BB i (.v u):=by
 have hl:=Ey h
 rw[J4,List.length_reverse]at hl
 match xs,hl with
 |[u,v],_=>exact⟨u,v,rfl,(ze h).symm⟩
theorem ZE{i j:Nat}{n n':Str}{xs:List PySem.Expr}{k:Nat}(hi:S.names[i]? =some n)(hj:S.names[j]? =some n')(hfi:S.cs.names.lookup n≠some .free)(hfj:S.cs.names.lookup n'≠some .free)(hc:CK x=false)(hs:∀f:Fx,f.cs=S.cs→swappedStores [.Tuple xs k q] x f.env=pure (some [n,n']))(ie:AE c C d S e x):
  Hs c C d S (.unr [.loc i,.loc j] e) (.Assign [.Tuple xs k q] x p):=by
 intro f A X R σ s K a h Ev Q xs' hq
 refine Assign_Tuple_swapped (ie.go a h Ev _ xs'.xo fun l σ₁ R₁ rv s₁ le sm hk r hl=>?_) (Oh hc) (hs f a.cs)
 refine Aa (Am hk) fun v hv hk=>?_
 refine AH (lT hk) fun tup vs hq2 hk=>?_;subst hq2
 refine Aa (Ad hk) fun σ₂ hσ hk=>?_
 refine AH (S7 hσ) fun u w hq2 hq3=>?_;subst hq2;subst hq3
 have a₁:=a.up le sm r
 refine items a₁ (.of (AP hv hl)) rfl fun rvs s₂ sm₂ r₂ hvs=>?_
 obtain⟨ru,us,rfl,h1,hvs⟩:=AU.A9 hvs
 obtain⟨rw_,us,rfl,h2,hvs⟩:=AU.A9 hvs
 rw[AU.C7 hvs]
 have a₂:=a₁.up (.refl _) sm₂ r₂
 refine zj (jw (Wh a₂ hj hfj (.v h2) fun s₃ sm₃ r₃=>?_))
 refine zj (jw (Wh (a₂.up (.refl _) sm₃ r₃) hi hfi (.v h1) fun s₄ sm₄ r₄=>?_))
 exact zF (hq .next _ R₁ .next s₄ le (((sm.trans sm₂).trans sm₃).trans sm₄) hk r₄ .next)
theorem Zx{k:Nat}(hn:S.names[k]? =some n)(hf:S.cs.names.lookup n≠some .free)(i:AE c C d S e x):Hs c C d S (.aug k .add e) (.AugAssign (.Name n q) .Add x p):=by
 intro f A X R σ s K a h Ev Q xs' hq
 refine Aa (Ad h) fun l hl h=>?_
 refine Aa (Am h) fun xv hx h=>?_
 refine Aw (Bm h) fun hsc h=>?_
 refine Av a.r fun m led r=>?_
 have hn':f.names[k]? =some n:=by rw[a.names];exact hn
 refine wpAny_AugAssign_Name (MC a.G a.NM r hn' hl fun rv hlr=>?_)
 refine i.go a h Ev _ xs'.xo fun l' σ₁ R₁ rv' s₁ le sm hk r₁ hl'=>?_
 refine Aa (Am hk) fun yv hy hk=>?_
 refine Aa (Ad hk) fun v hv hk=>?_
 refine Y6 r₁ (V.up le (AP hx hlr)) (AP hy hl') hv hsc Ev _ fun R₂ rv₂ s₂ le₂ sm₂ r₂ hv₂=>?_
 refine Av r₂ ?_;clear r₂;intro m₂ led₂ r₂
 exact Br a.G a.NM r₂ hn' (by rw[a.cs];exact hf) (.v hv₂) fun s' sm' r'=>hq .next _ R₂ .next s' (le.trans le₂) ((sm.trans sm₂).trans sm') hk r' .next
theorem eX(hc:CK x=false)(i:AE c C d S e x):Hs c C d S (.ex e) (.Expr x p):=by
 intro f A X R σ s K a h Ev Q xs' hq
 refine wpAny_Expr_any (i.go a h Ev _ xs'.xo fun l σ₁ R₁ rv s₁ le sm hk r hl=>?_) (Le a.G.kind) (CA hc)
 refine Aa (Am hk) fun v hv hk=>?_
 exact hq .next σ₁ R₁ .next s₁ le sm (Bm hk).2 r .next
theorem eY(u:Ej c C d S e x)(v:PK c C d S a xs)(w:PK c C d S b ys):Hs c C d S (.if_ e a b) (.If x xs ys p):=by
 intro f A X R σ s K at_ h Ev Q xs' hq
 refine wpAny_If (u.go at_ h Ev _ xs'.xo fun bb σ₁ R₁ s₁ le sm hk r=>?_)
 have go:=Ns.up hq le sm
 have a₁:=at_.up le sm r
 induction bb using za with
 |true=>exact v f A X R₁ σ₁ s₁ K a₁ hk Ev Q (xs'.up le sm) go
 |false=>exact w f A X R₁ σ₁ s₁ K a₁ hk Ev Q (xs'.up le sm) go
theorem SO(u:Ej c C d S e x)(v:PK c C d S a xs)(w:PK c C d S b ys):Hs c C d S (.while_ e a b) (.While x xs ys p):=by
 intro f A X R σ s K at_ h Ev Q xs' hq
 refine zg h ?_;clear h;intro n h
 exact whl_start 0 (Hk u v w xs' hq n R σ s (.refl R) (.refl s) at_ h)
theorem ZA{ts:List T}{it:It}{iter:PySem.Expr}(ht:PV c S ts x)(hs:Dm iter=false)(u:fM c C d S x it iter)(v:PK c C d S a xs):Hs c C d S (.for_ ts it a) (.For x iter xs [] p):=by
 intro f A X R σ s K at_ h Ev Q xs' hq
 refine wpAny_For (u f A X R σ s _ at_ h Ev _ xs'.xo fun vs σ₁ R₁ s₁ I fp wr Stt le sm hk hla W hL hw hfix hst=>?_) (H7 hs)
 exact OU W ht v hL hw hfix xs' hq vs.length 0 R₁ σ₁ s₁ rfl (.refl _) le sm hla hst hk
theorem ZB(i:AE c C d S e x):Hs c C d S (.ret e) (.Return (some x) p):=fun _ _ _ _ _ _ _ a h Ev _ xs' hq=>
 wpAny_Return_some (i.go a h Ev _ xs'.xo fun l σ₁ R₁ rv s₁ le sm hk r hl=>hq (.ret l) σ₁ R₁ (.ret rv) s₁ le sm hk r (.ret hl))
theorem VC:Hs c C d S (.ret (.lit .none)) (.Return none p):=fun _ _ _ R σ s _ a h _ _ _ hq=>wpAny_Return_none (hq (.ret (.v .none)) σ R (.ret .none) s (.refl R) (.refl s) h a.r (.ret (.v .none)))
theorem Zy:Hs c C d S .brk (.Break p):=fun _ _ _ R σ s _ a h _ _ _ hq=>wpAny_Break (hq .brk σ R .brk s (.refl R) (.refl s) h a.r .brk)
theorem VA:Hs c C d S .cont (.Continue p):=fun _ _ _ R σ s _ a h _ _ _ hq=>wpAny_Continue (hq .cont σ R .cont s (.refl R) (.refl s) h a.r .cont)
theorem Vz{msg:Option PySem.Expr}(i:Ej c C d S e x):Hs c C d S (.asrt e) (.Assert x msg p):=by
 intro f A X R σ s K a h Ev Q xs' hq
 refine wpAny_Assert_holds (i.go a h Ev _ xs'.xo fun b σ₁ R₁ s₁ le sm hk r=>?_)
 induction b using za with
 |true=>exact⟨rfl,hq .next σ₁ R₁ .next s₁ le sm hk r .next⟩
 |false=>exact hk.elim
theorem Zv:PK c C d S .nil []:=fun _ _ _ R σ s _ a h _ _ _ hq=>wpAny_execs_nil (hq .next σ R .next s (.refl R) (.refl s) h a.r .next)
theorem Vv{t:Ag.S}{x:Stmt}(i:Hs c C d S t x)(j:PK c C d S a xs):PK c C d S (.cons t a) (x::xs):=by
 intro f A X R σ s K at_ h Ev Q xs' hq
 refine wpAny_execs_cons (i f A X R σ s _ at_ h Ev _ xs' fun o σ₁ R₁ fl s₁ le sm hk r hfl=>?_)
 induction o using Out.casesOn with
 |next=>rw[hfl.RH];exact j f A X R₁ σ₁ s₁ K (at_.up le sm r) hk Ev Q (xs'.up le sm) (Ns.up hq le sm)
 |brk=>rw[hfl.aN];exact hq .brk σ₁ R₁ .brk s₁ le sm hk r .brk
 |cont=>rw[hfl.Wn];exact hq .cont σ₁ R₁ .cont s₁ le sm hk r .cont
 |ret l=>refine Aa hfl.eC fun rv hq1 hl=>?_;subst hq1;exact hq (.ret _) σ₁ R₁ (.ret _) s₁ le sm hk r (.ret hl)
end
end
section
set_option maxHeartbeats 4000000
section
variable {M:Model}{A:Around}{E:Value→Shared→Prop}{s:Shared}{env:Env}
theorem Iv{x:Sem Value}{Q:Flow→Shared→Prop}(hh:A.handled=none)
  (h:wpAny M A x (fun v s₁=>∃e o,v=.ref e∧s₁.heap.get? e=some o∧CR o∧E (.ref e) s₁) E s):wpAny M A (raiseStmt env (some x) none) Q E s:=by
 unfold raiseStmt
 refine zj (zW h (fun v s₁ h₁=>?_) fun _ _ x=>x)
 clear h
 refine PH h₁ fun e o hv he ho hE=>?_;clear h₁
 subst hv
 induction ho using CR.casesOn with
 |mk cls vs hT hc hd h1=>
 have ty:s₁.TypeIs (.ref e) cls:=⟨o,he,hc⟩
 have hsub:=hT.F.isExc
 have hmeta:=hT.F.plainMeta
 obtain⟨oc,od,odt,os⟩:=o
 simp only at hc hd
 subst hc;subst hd
 obtain⟨hp,g,d,tk,oss⟩:=s₁
 repeat (first |refine wpAny_loadPart he ?_ |refine wpAny_field he rfl h1 ?_ |wp_step)
 unfold raiseNew
 refine zj (wpAny_handled ?_)
 rw[hh]
 first
  |exact wpAny_throw hE
  |exact zj (zF (wpAny_throw hE))
end
section
variable {c:Cx}{C:Cfg}{S:Sx}{d:Nat}{f:Fx}{A:Around}{X:AN→St→Prop}{R R':Rec}{σ σ':St}{s s':Shared}{m:Str→Option Value}{led:List (Addr×Obj)}{Ev:Value→Shared→Prop}{e:E}{x:PySem.Expr}{p q:Pos}{n:Str}
theorem gO{v:Val}{P:Nat→Prop}(h:match v with | .exc a=>P a |_=>False):∃a,v=.exc a∧P a:=by
 induction v using Val.casesOn with
 |exc a=>exact⟨a,rfl,h⟩
 |_=>exact h.elim
theorem Nz(r:Rel c f R σ s.heap m led){a:Addr}{o:Obj}(hz:c.Z R a o)(ho:CR o):(a,o)∈led:=
 hz.elim (fun h=>ho.casesOn fun _ vs _ _ hd _=>absurd hd (h.2 vs)) (r.zs _)
theorem ah{h:Heap}{a b:Addr}{o:Obj}(h1:h.get? b=some o)(h2:h.get? a=none):b≠a:=fun e=>nomatch (e▸h1).symm.trans h2
theorem Mx{h:Heap}{a b:Addr}{o:Obj}{fr:List Addr}(h1:h.get? b=some o)(h2:b≠a)(h3:b∉fr):(hideAll h (a::fr)).get? b=some o:=hideAll_get _ h1 fun hm=>(zI.mp hm).elim h2 h3
theorem GV{env:Env}{outer:List Env}{b L:Addr}(hf:env.frame=some L)(h1:b≠L)(h2:b∉outer.filterMap (·.frame)):b∉(env::outer).filterMap (·.frame):=by
 rw[List.filterMap_cons_some hf];exact fun h=>(zI.mp h).elim h1 h2
theorem RN{base h₀:Heap}{outer:List Env}(B:Below A base outer h₀){b:Addr}(h:h₀.get? b=none):b∉outer.filterMap (·.frame):=fun hb=>
 Aa (B.frames.mem hb).2 fun _ ho _=>nomatch ho.symm.trans h
theorem Lq{base h:Heap}{fs:List Env}(K:Below A base fs h){a:Addr}{o:Obj}(hz:h.get? a=some o)(ho:CR o):
  ∃Y a0,Hq Y∧Mark (hideAll h (a::fs.filterMap (·.frame))) fs a (.type Y) a0 h:=by
 induction ho using CR.casesOn with
 |mk Y vs hT hc hd h1=>exact⟨Y,vs[0]'(Nat.lt_trans (jO 0) (Array.getElem?_eq_some_iff.mp h1).1),hT,fun b ob q=>of_hideAll _ q,hideAll_none _ (.head _),
   funFrames_hide K.frames (fun env he b hb=>.tail _ (List.mem_filterMap.mpr ⟨env,he,hb⟩)),.inr ⟨o,vs,hz,hc,hd,h1,Array.getElem?_eq_getElem _⟩⟩
theorem TL(G:L8 c f A d)(r:Rel c f R σ s.heap m led){a:Addr}{o:Obj}(hz:c.Z R a o)(ho:CR o):am c f A (.user a) σ R (.ref a) s:=by
 refine DS G.fr fun outer A₀ base hA B₀=>?_
 have hN:=r.N _ (Nz r hz ho)
 refine AH (Lq (pushX B₀ r.F (env:=f.env) rfl G.kind) hN.1 ho) fun Y a0 hT mk=>?_
 exact⟨a,Y,_,a0,m,led,outer,rfl,rfl,hT,hA,mk,fun b ob hb hn=>Mx (r.F.keep b ob hb) (ah hb hN.2.2) (GV rfl (ah hb (kts_self r.F)) hn),
  fun p hp hne=>Mx (r.N p hp).1 hne (GV rfl (r.N p hp).2.1 (RN B₀ (r.N p hp).2.2)),fun p hp=>(r.N p hp).2.2,Heap.UpToSlots.of_keeps r.F.keep,r.toRelL⟩
theorem VB{k:Nat}(hn:S.names[k]? =some n):Hs c C d S (.rais k) (.Raise (some (.Name n q)) none p):=by
 intro f A X R σ s K a h Ev Q xs' hq
 refine Aa (Ad h) fun l hl h=>?_
 refine Aa (Am h) fun v hv h=>?_
 refine Aa (gO h) fun ad hq1 h=>?_;subst hq1
 refine Av a.r fun m led r=>?_
 rw[arm_exec_Raise]
 refine zj (Ji (Iv a.G.hh (zj (zW (A5 a.G a.NM r (by rw[a.names];exact hn) hl fun rv hlr=>?_) (fun v s₁ h₁=>zj (Ji (zF h₁))) fun _ _ x=>x))))
 exact Aw (AP hv hlr).inv fun e h'=>Aa h' fun o hz ho=>⟨ad,o,e,r.get hz,ho,xs'.xo (.user ad) σ R (.ref ad) s (Rec.le.refl R).x (.refl s) h (TL a.G r hz ho)⟩
theorem M1{n:Str}{q:Pos}{l:Nat}{env:Env}(h:env.kindOf n≠some .local):swapsWith x (some (.Name n q)) l env=pure false:=by
 have e:(env.kindOf n==some .local)=false:=jd.mpr h
 cases x <;>first |rfl |(unfold swapsWith;simp[e])
theorem Vx{k:Nat}(hn:S.names[k]? =some n)(hk:S.cs.names.lookup n=some .cell)(i:AE c C d S e x):Hs c C d S (.asg k e) (.Assign [.Name n q] x p):=by
 intro f A X R σ s K a h Ev Q xs' hq
 refine wpAny_Assign_Name (i.go a h Ev _ xs'.xo fun l σ₁ R₁ rv s₁ le sm hk' r hl=>?_) (M1 (by show f.cs.names.lookup _≠_;rw[a.cs,hk];exact nofun))
 refine Av r ?_;clear r;intro m led r
 exact Br a.G a.NM r (by rw[a.names];exact hn) (by rw[a.cs,hk];exact nofun) hl fun s' sm' r'=>hq .next _ R₁ .next s' le (sm.trans sm') hk' r' .next
end
end
section
set_option maxHeartbeats 4000000
noncomputable def kj:It→Nat
 | .of e=>sz e
 | .range1 a=>sz a+2
mutual
noncomputable def km:Ag.S→Nat
 | .asg _ e=>sz e+2
 | .sasg _ e=>sz e+3
 | .asgs _ e=>sz e+5
 | .unp ts e=>2*ts.length+sz e+2
 | .unr ts e=>2*ts.length+sz e+2
 | .aug _ _ e=>sz e+2
 | .ex e=>sz e+1
 | .if_ t a b=>sz t+Hf a+Hf b+1
 | .while_ t a b=>sz t+Hf a+Hf b+1
 | .for_ ts it a=>2*ts.length+2+kj it+Hf a
 | .ret e=>sz e+1
 | .brk=>1
 | .cont=>1
 | .asrt e=>sz e+1
 | .rais _=>2
noncomputable def Hf:Ss→Nat
 | .nil=>0
 | .cons s ss=>km s+Hf ss
end
section
variable (T:Tb)
noncomputable def TH:Ag.T→Nat→PySem.Expr
 | .loc i,k=>.Name (Aj T.names i) (T.p k)
 | .sat i,k=>.Attribute (.Name T.self (T.p (k+1))) (Aj T.attrs i) (T.p k)
noncomputable def H3:List Ag.T→Nat→List PySem.Expr
 |[],_=>[]
 |t::ts,k=>TH T t k::H3 ts (k+2)
noncomputable def gK:List Ag.T→Nat→PySem.Expr
 |[t],k=>TH T t k
 |ts,k=>.Tuple (H3 T ts k) 0 (T.p (k+2*ts.length))
noncomputable def Xk:It→Nat→PySem.Expr
 | .of e,k=>BO T e k
 | .range1 a,k=>EE T "range" [BO T a (k+2)] k
mutual
noncomputable def aR:Ag.S→Nat→Stmt
 | .asg i e,k=>.Assign [.Name (Aj T.names i) (T.p (k+1))] (BO T e (k+2)) (T.p k)
 | .sasg i e,k=>.Assign [.Attribute (.Name T.self (T.p (k+2))) (Aj T.attrs i) (T.p (k+1))] (BO T e (k+3)) (T.p k)
 | .asgs ts e,k=>.Assign (H3 T ts (k+1)) (BO T e (k+5)) (T.p k)
 | .unp ts e,k=>.Assign [.Tuple (H3 T ts (k+2)) 0 (T.p (k+1))] (BO T e (k+2+2*ts.length)) (T.p k)
 | .unr ts e,k=>.Assign [.Tuple (H3 T ts (k+2)) 0 (T.p (k+1))] (BO T e (k+2+2*ts.length)) (T.p k)
 | .aug i _ e,k=>.AugAssign (.Name (Aj T.names i) (T.p (k+1))) .Add (BO T e (k+2)) (T.p k)
 | .ex e,k=>.Expr (BO T e (k+1)) (T.p k)
 | .if_ t a b,k=>.If (BO T t (k+1)) (BR a (k+1+sz t)) (BR b (k+1+sz t+Hf a)) (T.p k)
 | .while_ t a b,k=>.While (BO T t (k+1)) (BR a (k+1+sz t)) (BR b (k+1+sz t+Hf a)) (T.p k)
 | .for_ ts it a,k=>.For (gK T ts (k+1)) (Xk T it (k+2+2*ts.length)) (BR a (k+2+2*ts.length+kj it)) [] (T.p k)
 | .ret e,k=>.Return (MN e (BO T e (k+1))) (T.p k)
 | .brk,k=>.Break (T.p k)
 | .cont,k=>.Continue (T.p k)
 | .asrt e,k=>.Assert (BO T e (k+1)) none (T.p k)
 | .rais i,k=>.Raise (some (.Name (Aj T.names i) (T.p (k+1)))) none (T.p k)
noncomputable def BR:Ss→Nat→List Stmt
 | .nil,_=>[]
 | .cons s ss,k=>aR s k::BR ss (k+km s)
end
noncomputable def Lx(e:E):Bool:= !Nat.beq e.ctorIdx 26
noncomputable def NQ(e:E):Bool:=Nat.beq e.ctorIdx 11
noncomputable def lO:Ag.T→Bool
 | .loc i=>Nat.blt i T.names.length
 | .sat i=>T.Af && Nat.blt i T.attrs.length
noncomputable def RP:List Ag.T→Bool
 |[]=>true
 |t::ts=>lO T t && RP ts
noncomputable def Z0{α:Type}:List α→Option (α×α)
 |[a,b]=>some (a,b)
 |_=>none
noncomputable def RX :E→Option (E×E)
 | .seq true (.cons a (.cons b .nil))=>some (a,b)
 |_=>none
noncomputable def Hc :Ag.T→Option Nat
 | .loc i=>some i
 |_=>none
noncomputable def eK:List Ag.T→Bool
 | .sat _::_=>true
 |_=>false
noncomputable def YD(i j:Nat)(a b:E)(k:Nat):Bool:=
 (Nat.blt i T.names.length && Nat.blt j T.names.length) && (!(Dn (Aj T.names i) (Aj T.names j)) && ((!Bn T.cells (Aj T.names i) && !Bn T.cells (Aj T.names j)) && (Nat.beq (T.p (k+2)).line (T.p (k+4)).line &&
  (!([BO T a (k+7),BO T b (k+7+sz a)].all (foldedForSure 8)) && !([BO T a (k+7),BO T b (k+7+sz a)].all (constantsAlone 8))))))
noncomputable def RQ(ts:List Ag.T)(e:E)(k:Nat):Bool:=match Z0 ts,RX e with
 |some (t,u),some (a,b)=>(match Hc t,Hc u with |some i,some j=>YD T i j a b k |_,_=>false)
 |_,_=>false
noncomputable def lM:It→Nat→Bool
 | .of e,_=>CF T e
 | .range1 a,_=>Bn T.gls "range" && CF T a
mutual
noncomputable def lN:Ag.S→Nat→Bool
 | .asg i e,_=>(Nat.blt i T.names.length && (Lx e || Bn T.cells (Aj T.names i))) && CF T e
 | .sasg i e,_=>(T.Af && (Nat.blt i T.attrs.length && Lx e)) && CF T e
 | .asgs ts e,_=>(Nat.beq ts.length 2 && RP T ts) && CF T e
 | .unp ts e,_=>(RP T ts && (Lx e && (eK ts || !NQ e))) && CF T e
 | .unr ts e,k=>RQ T ts e k && CF T e
 | .aug i o e,_=>(Nat.blt i T.names.length && (match o with | .add=>true |_=>false)) && CF T e
 | .ex e,_=>Lx e && CF T e
 | .if_ t a b,k=>CF T t && (DN a (k+1+sz t) && DN b (k+1+sz t+Hf a))
 | .while_ t a b,k=>CF T t && (DN a (k+1+sz t) && DN b (k+1+sz t+Hf a))
 | .for_ ts it a,k=>(Nat.beq ts.length 1 && (RP T ts && lM T it ts.length)) && DN a (k+2+2*ts.length+kj it)
 | .ret e,_=>CF T e
 | .brk,_=>true
 | .cont,_=>true
 | .asrt e,_=>CF T e
 | .rais i,_=>Nat.blt i T.names.length
noncomputable def DN:Ss→Nat→Bool
 | .nil,_=>true
 | .cons s ss,k=>lN s k && DN ss (k+km s)
end
end
end
section
set_option maxHeartbeats 4000000
structure Tq(c:Cx)(C:Cfg)(d:Nat)(S:Sx)(T:Tb):Prop where
 O:fO c C d S T
 locl:∀n∈T.names,Bn T.cells n=false→S.cs.names.lookup n=some .local
 rng:("range":Str)∈T.gls→Ma c S "range" (.type "range")
section
variable {c:Cx}{C:Cfg}{S:Sx}{d:Nat}{T:Tb}{e a b:E}{f:Fx}
theorem EF{T:Tb}{e:E}{k:Nat}(h:Lx e=true):CK (BO T e k)=false:=by
 induction e using E.casesOn with
 |p1 o a=>cases o <;>rfl
 |p2 o a b=>cases o <;>rfl
 |p3 o a b c=>cases o <;>rfl
 |seq t es=>induction t using za <;>rfl
 |comp _ _ _=>exact ft h
 |_=>rfl
theorem DM:∀{l:List Str} {k:Nat},k < l.length→Aj l k∈l
 |[],_,h=>absurd h (jy _)
 |_::_,0,_=>.head _
 |_::r,k+1,h=>.tail _ (DM (jG h))
theorem WO{xs:List PySem.Expr}{x:PySem.Expr}{k:Nat}{q:Pos}{env:Env}(h:Nat.beq x.ctorIdx 25=false):swappedStores [.Tuple xs k q] x env=pure none:=by
 cases x <;>first |rfl |exact ft h.symm
theorem VL{T:Tb}{t:Ag.T}{k:Nat}{u x:PySem.Expr}{env:Env}:swappedStores [TH T t k,u] x env=pure none:=by
 cases t <;>rfl
theorem VK{o:PySem.Expr}{n:Str}{p:Pos}{xs vs:List PySem.Expr}{k k':Nat}{q q':Pos}{env:Env}:swappedStores [.Tuple (.Attribute o n p::xs) k q] (.Tuple vs k' q') env=pure none:=by
 unfold swappedStores
 show(if _ then _ else _)=_
 split
 ·rfl
 ·show(if _ then _ else _)=_
  split
  ·rfl
  ·show(if((List.filterMap _ xs).length !=xs.length+1 || _)=true then _ else _)=_
   rw[z5]
   rw[JM]
   refine .inl ?_
   rw[JR]
   exact j5 (Jd (List.length_filterMap_le _ _))
theorem ZJ{n m:Str}{p p':Pos}{x y:PySem.Expr}{k k':Nat}{q q':Pos}{env:Env}(hk:env.scope.kind=.function)(hx:Ah x=true)(hy:Ah y=true)(hl:p.line=p'.line)(hn:env.kindOf n=some .local)(hm:env.kindOf m=some .local)(hne:n≠m)
  (hf:[x,y].all (foldedForSure 8)=false) (hc:[x,y].all (constantsAlone 8)=false):swappedStores [.Tuple [.Name n p,.Name m p'] k q] (.Tuple [x,y] k' q') env=pure (some [n,m]):=by
 have hb:env.blockKind=.function:=by unfold Env.blockKind;rw[hk];rfl
 unfold swappedStores
 show(if(env.blockKind !=.function)=true then _ else _)=_
 rw[hb,zR (by decide)]
 show(if[x,y].any _=true then _ else _)=_
 have hs:∀{g:PySem.Expr→Bool},(∀x,Ah x=true→g x=false)→[x,y].any g=false:=fun hg=>by rw[JB,JB,hg _ hx,hg _ hy];rfl
 rw[hs (fun x hx=>by cases x <;>first |rfl |exact ft hx),zR (by decide)]
 have e1:(env.kindOf n==some .local && p.line==p.line)=true:=by rw[hn];exact ju p.line
 have e2:(env.kindOf m==some .local && p'.line==p.line)=true:=by rw[hm,hl];exact ju p'.line
 have ed:([n,m]:List Str).eraseDups=[n,m]:=by
  have:(m==n)=false:=jd.mpr fun e=>hne e.symm
  simp[List.eraseDups_cons,this]
 have key:∀{g:PySem.Expr→Option Str},(∀i r,g (.Name i r)=if(env.kindOf i==some .local && r.line==p.line)=true then some i else none)→[PySem.Expr.Name n p,.Name m p'].filterMap g=[n,m]:=fun hg=>by
  rw[JP,hg,z5 e1,JP,hg,z5 e2];rfl
 show(if((List.filterMap _ [PySem.Expr.Name n p,.Name m p']).length !=2 || (List.filterMap _ [PySem.Expr.Name n p,.Name m p']).eraseDups.length !=(List.filterMap _ [PySem.Expr.Name n p,.Name m p']).length)=true then _ else _)=_
 rw[key (fun _ _=>rfl),ed,zR (show¬(([n,m].length !=2 || [n,m].length !=[n,m].length)=true)from fun h=>ft h)]
 show(if[x,y].all (foldedForSure 8)=true then _ else _)=_
 rw[hf,zR (by decide)]
 show(if[x,y].all (constantsAlone 8)=true then _ else _)=_
 rw[hc,zR (by decide)]
theorem Vk{T:Tb}{e:E}{k:Nat}(h:NQ e=false):Nat.beq (BO T e k).ctorIdx 25=false:=by
 induction e using E.casesOn with
 |seq _ _=>exact ft h.symm
 |p1 o a=>cases o <;>rfl
 |p2 o a b=>cases o <;>rfl
 |p3 o a b c=>cases o <;>rfl
 |_=>rfl
variable (W:Tq c C d S T)(ok:Dy c)(HC:AM c C d c.mth)
noncomputable def PS(c:Cx)(C:Cfg)(d:Nat)(S:Sx)(T:Tb)(s:Ag.S):Prop:=∀k,lN T s k=true→Hs c C d S s (aR T s k)
noncomputable def Th(c:Cx)(C:Cfg)(d:Nat)(S:Sx)(T:Tb)(ss:Ss):Prop:=∀k,DN T ss k=true→PK c C d S ss (BR T ss k)
include W in
theorem DB{i:Nat}(h:Nat.blt i T.names.length=true):S.cs.names.lookup (Aj T.names i)≠some .free:=W.O.loc _ (DM (CC h))
include W ok HC in
theorem QE{e:E}{k:Nat}(h:CF T e=true):AE c C d S e (BO T e k):=(QD W.O ok HC e k h).1
include W ok HC in
theorem kx{e:E}{k:Nat}(h:CF T e=true):Ej c C d S e (BO T e k):=(QD W.O ok HC e k h).2
include W ok in
theorem gx{t:Ag.T}{k:Nat}(h:lO T t=true):V9 c S t (TH T t k):=by
 cases t with
 |loc i=>exact ZO (A7 W.O h) (DB W h)
 |sat i=>
  have h:=Ac h
  refine Aw (W.O.sk h.1) fun s1 s2=>?_
  show V9 c S _ (.Attribute (.Name T.self _) _ _)
  rw[←W.O.self]
  exact ZP ok (W.O.Af.trans h.1) s1 s2 (by rw[W.O.attrs];exact BU (CC h.2))
include W ok in
theorem fg:∀{ts:List Ag.T} {k:Nat},RP T ts=true→IQ c S ts (H3 T ts k)
 |[],_,_=>trivial
 |_::_,_,h=>⟨gx W ok (Ac h).1,fg (Ac h).2⟩
include W ok HC in
theorem YU(i:Nat)(e:E):PS c C d S T (.asg i e):=fun k h=>
 have h:=Ac h
 have h1:=Ac h.1
 (Bool.or_eq_true_iff.mp h1.2).elim (fun h2=>Zw (A7 W.O h1.1) (DB W h1.1) (EF h2) (QE W ok HC h.2)) fun h2=>Vx (A7 W.O h1.1) (W.O.celk _ (Bc h2)) (QE W ok HC h.2)
include W ok HC in
theorem U5(i:Nat)(e:E):PS c C d S T (.sasg i e):=by
 intro k h
 have h:=Ac h
 have h1:=Ac h.1
 have h2:=Ac h1.2
 refine Aw (W.O.sk h1.1) fun s1 s2=>?_
 show Hs c C d S _ (.Assign [.Attribute (.Name T.self _) _ _] _ _)
 rw[←W.O.self]
 exact VD ok (W.O.Af.trans h1.1) s1 s2 (by rw[W.O.attrs];exact BU (CC h2.1)) (EF h2.2) (QE W ok HC h.2)
include W ok HC in
theorem U1(ts:List Ag.T)(e:E):PS c C d S T (.asgs ts e):=by
 intro k h
 have h:=Ac h
 have h1:=Ac h.1
 match ts,h1 with
 |[t,u],h1=>
  have h2:=Ac h1.2
  exact Vy (gx W ok h2.1) (gx W ok (Ac h2.2).1) (fun _=>VL) (QE W ok HC h.2)
theorem Vh{ts:List Ag.T}(h:eK ts=true):∃i r,ts=.sat i::r:=by
 induction ts using zo with
 |nil=>exact ft h
 |cons t r=>induction t using T.casesOn with
  |sat i=>exact⟨i,r,rfl⟩
  |loc _=>exact ft h
theorem Zo{e:E}(h:NQ e=true):∃t es,e=.seq t es:=by
 induction e using E.casesOn with
 |seq t es=>exact⟨t,es,rfl⟩
 |_=>exact ft h
include W ok HC in
theorem YZ(ts:List Ag.T)(e:E):PS c C d S T (.unp ts e):=by
 intro k h
 have h:=Ac h
 have h1:=Ac h.1
 have h2:=Ac h1.2
 refine ZD (fg W ok h1.1) (EF h2.1) (fun env=>?_) (QE W ok HC h.2)
 induction hq:NQ e using za with
 |false=>exact WO (Vk hq)
 |true=>
  have h3:=h2.2
  rw[hq]at h3
  rw[Bool.not_true,Bool.or_false]at h3
  refine Av (Vh h3) fun i ts hq2=>?_;subst hq2
  refine Av (Zo hq) fun t es hq2=>?_;subst hq2
  induction t using za with
  |true=>exact VK
  |false=>exact WO rfl
theorem Z1{α:Type}{l:List α}{p:α×α}(h:Z0 l=some p):l=[p.1,p.2]:=by
 match l,h with
 |[a,b],h=>rw[←ze h]
theorem UQ{e:E}{p:E×E}(h:RX e=some p):e=.seq true (.cons p.1 (.cons p.2 .nil)):=by
 induction e using E.casesOn with
 |seq t es=>induction t using za with
  |false=>exact nz h
  |true=>match es,h with
   | .cons a (.cons b .nil),h=>rw[←ze h]
 |_=>exact nz h
theorem Og{t:Ag.T}{i:Nat}(h:Hc t=some i):t=.loc i:=by
 induction t using T.casesOn with
 |loc j=>rw[←ze h]
 |sat _=>exact nz h
include W ok HC in
theorem Y0(ts:List Ag.T)(e:E):PS c C d S T (.unr ts e):=by
 intro k h
 have h:=Ac h
 have h1:RQ T ts e k=true:=h.1
 unfold RQ at h1
 induction q1:Z0 ts using zh with
 |none=>rw[q1]at h1;exact ft h1
 |some p1=>induction q2:RX e using zh with
  |none=>rw[q1,q2]at h1;exact ft h1
  |some p2=>
   obtain⟨t,u⟩:=p1
   obtain⟨a,b⟩:=p2
   rw[q1,q2]at h1
   have h1:(match Hc t,Hc u with |some i,some j=>YD T i j a b k |_,_=>false)=true:=h1
   induction q3:Hc t using zh with
   |none=>rw[q3]at h1;exact ft h1
   |some i=>induction q4:Hc u using zh with
    |none=>rw[q3,q4]at h1;exact ft h1
    |some j=>
     rw[q3,q4]at h1
     have e1:=Z1 q1
     have e2:=UQ q2
     have e3:=Og q3
     have e4:=Og q4
     dsimp only at e1 e2
     subst e3;subst e4;subst e1;subst e2
     have h1:YD T i j a b k=true:=h1
     refine Aw (Ac h1) fun g1 g2=>?_
     refine Aw (Ac g2) fun g2 g3=>?_
     refine Aw (Ac g3) fun g3 g4=>?_
     refine Aw (Ac g4) fun g4 g5=>?_
     refine Aw (Ac g5) fun g5 g6=>?_
     have a1:=Ac g1
     have a3:=Ac g3
     have l1:=W.locl _ (DM (CC a1.1)) (BN a3.1)
     have l2:=W.locl _ (DM (CC a1.2)) (BN a3.2)
     refine ZE (A7 W.O a1.1) (A7 W.O a1.2) (DB W a1.1) (DB W a1.2) rfl (fun f hf=>?_) (QE W ok HC h.2)
     refine ZJ (by show f.cs.kind=_;rw[hf];exact W.O.kfun) (AA ..) (AA ..) (zw g4) (by show f.cs.names.lookup _=_;rw[hf];exact l1) (by show f.cs.names.lookup _=_;rw[hf];exact l2) (fun e=>?_) (BN g5) (BN g6)
     rw[e]at g2
     have:Dn (Aj T.names j) (Aj T.names j)=true:=by unfold Dn;rw[Gm];exact ja rfl
     rw[this]at g2;exact ft g2
include W ok HC in
theorem YV(i:Nat)(o:P2)(e:E):PS c C d S T (.aug i o e):=by
 intro k h
 have h:=Ac h
 have h1:=Ac h.1
 induction o using P2.casesOn with
 |add=>exact Zx (A7 W.O h1.1) (DB W h1.1) (QE W ok HC h.2)
 |_=>exact ft h1.2
include W ok HC in
theorem dY(e:E):PS c C d S T (.ex e):=fun _ h=>eX (EF (Ac h).1) (QE W ok HC (Ac h).2)
include W ok HC in
theorem dZ(e:E)(a b:Ss)(i:Th c C d S T a)(j:Th c C d S T b):PS c C d S T (.if_ e a b):=fun _ h=>
 have h:=Ac h
 eY (kx W ok HC h.1) (i _ (Ac h.2).1) (j _ (Ac h.2).2)
include W ok HC in
theorem Sa(e:E)(a b:Ss)(i:Th c C d S T a)(j:Th c C d S T b):PS c C d S T (.while_ e a b):=fun _ h=>
 have h:=Ac h
 SO (kx W ok HC h.1) (i _ (Ac h.2).1) (j _ (Ac h.2).2)
include W ok HC in
theorem mF{it:It}{target:PySem.Expr}{n k:Nat}(h:lM T it n=true):fM c C d S target it (Xk T it k):=by
 induction it using It.casesOn with
 |of e=>exact bq (QE W ok HC h)
 |range1 a=>exact OY (QE W ok HC (Ac h).2) (W.rng (Bc (Ac h).1)) (AA ..)
theorem Uj{it:It}{k:Nat}:Dm (Xk T it k)=false:=by
 induction it using It.casesOn with
 |of e=>exact D6 ..
 |_=>rfl
include W ok HC in
theorem YX(ts:List Ag.T)(it:It)(a:Ss)(i:Th c C d S T a):PS c C d S T (.for_ ts it a):=by
 intro k h
 have h:=Ac h
 have h1:=Ac h.1
 have h2:=Ac h1.2
 induction ts using zo with
 |nil=>exact ft h1.1
 |cons t ts=>induction ts using zo with
  |nil=>exact ZA (S5 (gx W ok (Ac h2.1).1)) Uj (mF W ok HC h2.2) (i _ h.2)
  |cons _ _=>exact ft h1.1
include W ok HC in
theorem YY(e:E):PS c C d S T (.ret e):=by
 intro k h
 show Hs c C d S _ (.Return (MN e _) _)
 unfold MN
 induction hn:GH e using za with
 |false=>exact ZB (QE W ok HC h)
 |true=>
  rw[RK hn];exact VC
theorem YW:PS c C d S T .brk:=fun _ _=>Zy
theorem U3:PS c C d S T .cont:=fun _ _=>VA
include W ok HC in
theorem U2(e:E):PS c C d S T (.asrt e):=fun _ h=>Vz (kx W ok HC h)
include W in
theorem U4(i:Nat):PS c C d S T (.rais i):=fun _ h=>VB (A7 W.O h)
theorem U6:Th c C d S T .nil:=fun _ _=>Zv
theorem Sb(s:Ag.S)(ss:Ss)(i:PS c C d S T s)(j:Th c C d S T ss):Th c C d S T (.cons s ss):=fun _ h=>Vv (i _ (Ac h).1) (j _ (Ac h).2)
include W ok HC in
theorem SM(ss:Ss):Th c C d S T ss:=
 @Ss.rec (PS c C d S T) (Th c C d S T) (YU W ok HC) (U5 W ok HC) (U1 W ok HC) (YZ W ok HC) (Y0 W ok HC) (YV W ok HC) (dY W ok HC) (dZ W ok HC) (Sa W ok HC) (YX W ok HC) (YY W ok HC) YW U3 (U2 W ok HC) (U4 W) U6 Sb ss
end
end
section
set_option maxHeartbeats 4000000
structure FF(L:Cv):Prop where
 bind:∀pm c' ctv clos v,bindArgs (kla_fn "<lambda>" L.qual L.params L.body L.scope clos pm (.ref c') ctv) ⟨[v],[]⟩=pure [(L.nk,v)]
 kk:L.scope.names.lookup L.nk=some .local
 gk:L.scope.names.lookup L.nm=some .globalImplicit
 fr:∀n p,(Cu.free n,p)∈L.args→L.scope.names.lookup n=some .free∧(n==("__debug__":Str))=false∧(n==("__classdict__":Str))=false
 co:L.scope.isCoroutine=false
 gen:L.scope.isGenerator=false
 kind:L.scope.kind=.function
 cell:∀x∈L.scope.names,x.2≠ .cell
 dk:(L.nk==("__debug__":Str))=false
 dm:(L.nm==("__debug__":Str))=false
noncomputable def gC:Ss:=.cons (.ex (.tapp (.loc 0) (.loc 4))) (.cons (.if_ (.p2 .gt (.p1 .len (.loc 0)) (.loc 1)) (.cons (.rais 2) .nil) (.nil)) (.cons (.ret (.p2 .isin (.loc 4) (.loc 3))) .nil))
structure Eh(c:Cx)(D:Dd)(ad:Addr)(cdv:Value):Prop where
 at_:FnAt c 6 D ad cdv
 Af:D.Af=false
 cells:D.cells=[]
 five:D.pargs.length=5
 body:∃T:Tb,T.names=D.pargs∧D.body=BR T gC 0
 len:nsIn c.K mainGlobals "len"=some none
 lenk:D.scope.names.lookup ("len":Str)=some .globalImplicit
section
variable {c:Cx}{C:Cfg}{S:Sx}{d:Nat}{f:Fx}{A:Around}{X:AN→St→Prop}{R R':Rec}{σ σ':St}{s s':Shared}{m:Str→Option Value}{led:List (Addr×Obj)}{K:LV→St→Prop}{Ev:Value→Shared→Prop}{Q:Value→Shared→Prop}
theorem Qa{L:Cv}(hL:FF L){g h₁:Heap}{L' q:Addr}{cdv:Value}{clos:List (Str×Addr)}{mm:Str→Option Value}{rv:Value}{pos:Pos}(F:Fr g L' h₁ mm)(hz:∀p∈R.zs,p∈led)(N:News g L' h₁ led)(hm:mm L.nk=some rv){as:List (Cu×Pos)}:
  ∀{xs:List Val},FE c R clos as xs→(∀n p,(Cu.free n,p)∈as→(Cu.free n,p)∈L.args)→∀{s:Shared} {Q:List Value→Shared→Prop} {E:Value→Shared→Prop},s.heap=h₁→(∀rvs tk,c.Vs R xs rvs→s.toks≤tk→Q (rvs++[rv]) {s with toks:=tk})→
   wpAny (model c.prog c.w) A (spliced (backTo pos (starEach (KI L.nk L.p2 as) (envX L.qual L.scope L' q cdv clos)))) Q E s:=by
 induction as with
 |nil=>
  intro xs h hf s Q E hs hq
  have h:xs=[]:=h
  subst h
  exact jf (nameX_L (hs▸F) hm (jI (hq [] s.toks .nil (zu _))) hL.kind hL.kk hL.dk) (Ab rfl)
 |cons a as ih=>
  intro xs h hf s Q E hs hq
  obtain⟨a,p⟩:=a
  induction a using Cu.casesOn with
  |free n=>
   obtain⟨x,ys,ca,oca,ra,e,h1,h2,h3,h4,h5⟩:=h
   subst e
   have fr:=hL.fr n p (hf n p (.head _))
   refine jf (nameX_F (hs▸N) h1 (hz _ h2) h3 ?_ hL.kind fr.1 fr.2.1 fr.2.2) (Ab rfl)
   exact ih h5 (fun n p hp=>hf n p (.tail _ hp)) hs fun rvs tk hv ht=>hq (ra::rvs) tk (.cons h4 hv) ht
  |num i=>
   refine Aa h fun ys e h'=>?_
   subst e
   refine jf (wpAny_Constant_int ?_) (Ab rfl)
   refine ih (s:={s with toks:=s.toks+1}) h' (fun n p hp=>hf n p (.tail _ hp)) hs fun rvs tk hv ht=>?_
   exact hq (.int i s.toks::rvs) tk (.cons (.int _ _) hv) (zp (zP _) ht)
theorem DC{nk:Str}{p2:Pos}:∀{as:List (Cu×Pos)},(KI nk p2 as).all Ah=true
 |[]=>rfl
 |(.free _,_)::r=>DC (as:=r)
 |(.num _,_)::r=>DC (as:=r)
theorem Mb.isFn(r:Rel c f R σ s.heap m led){k:Nat}{xs:List Val}{q:Addr}(z:Mb c R k xs q):PySem.W.FnAt q s.heap:=
 z.casesOn fun _ _ _ _ _ _ _ _ _ _ h1 _ _ _ _ _ _=>⟨_,_,_,_,r.BE (r.zs _ h1)⟩
end
section
variable {c:Cx}{d:Nat}{A A₀:Around}{R:Rec}{s:Shared}{led:List (Addr×Obj)}{D:Dd}{ad:Addr}{cdv:Value}{g h₁ base:Heap}{pg:Program}{loose:List Str}{mean:ExcName→Option Value}{mg mb mm:Str→Option Value}{LA ta ba:Addr}{stop p:Int}{t1 t4:Tok}{ev:Value}{vs:List Value}{n:Nat}{env:Env}{outer:List Env}{E:Value→Shared→Prop}
theorem Eh.get(O:Eh c D ad cdv){k:Nat}(hk:k < 5):D.pargs[k]? =some (Aj D.pargs k):=BU (by rw[O.five];exact hk)
theorem Yi{n:Nat}(h:n < AJ):((n+1:Nat):Int) < 2 ^ 63:=by have:=Bk;lia
theorem mJ{h:Heap}{a:Addr}(st:g.StaysIn h)(e:h.get? a=none):g.get? a=none:=
 Option.eq_none_iff_forall_ne_some.mpr fun _ q=>nomatch (st _ _ q).symm.trans e
theorem P6(O:Eh c D ad cdv)(hh:A.handled=none)(T:Top pg loose mean mg mb g)(XK:c.K.In g)(F:Fr g LA h₁ mm)(N:News g LA h₁ led)
  (v0:mm (Aj D.pargs 0)=some (.ref ta)) (v1:mm (Aj D.pargs 1)=some (.int stop t1)) (v2:mm (Aj D.pargs 2)=some ev) (v3:mm (Aj D.pargs 3)=some (.ref ba)) (v4:mm (Aj D.pargs 4)=some (.int p t4))
  (hta:(ta,seqObj false vs n)∈led) (nd:(led.map (·.1)).Nodup) (hl:vs.length < AJ) {Q:Flow→Shared→Prop} (hs:s.heap=h₁)
  (hq:∀h₂ tk,Fr g LA h₂ mm→News g LA h₂ (put ta (seqObj false (vs++[.int p t4]) (n+1)) led)→s.toks≤tk→
   (ltI stop (.ofNat (vs.length+1))=true∧∃e o,ev=.ref e∧h₂.get? e=some o∧CR o∧E (.ref e) {s with heap:=h₂,toks:=tk})∨
   (ltI stop (.ofNat (vs.length+1))=false∧∃bvs nn ns,Cl h₂ ba false bvs nn∧IntsAre bvs ns∧Q (.ret (.bool (ns.any (· ==p)))) {s with heap:=h₂,toks:=tk})):
  wpAny (model c.prog c.w) A (execs D.body (envX D.qual D.scope LA ad cdv [])) Q E s:=by
 have nm:∀{k:Nat} {v:Value} {pos:Pos} {s:Shared} {Q:Value→Shared→Prop} {E:Value→Shared→Prop},Fr g LA s.heap mm→mm (Aj D.pargs k)=some v→k < 5→Q v s→wpAny (model c.prog c.w) A (eval (.Name (Aj D.pargs k) pos) (envX D.qual D.scope LA ad cdv [])) Q E s:=fun F hv hk hq=>
  have hm:=zQ (O.get hk)
  nameX_L F hv hq O.at_.kind (DP O.at_ O.cells _ (by rw[Ir O.Af];exact hm)) (O.at_.dbg _ (zk _ hm)).1
 refine Aa O.body fun Tb ht hb=>?_
 rw[hb]
 refine CQ (wpAny_execs_cons ?_)
 show wpAny _ _ (exec (.Expr (DE Tb (.Name (Aj Tb.names 0) _) "append" [.Name (Aj Tb.names 4) _] _) _) _) _ _ _
 rw[ht]
 let fA:Fx:=B9 D [] LA ad cdv g
 refine wpAny_Expr_any (AY (f:=fA) (fun _ _ _=>rfl) rfl (zC rfl) (BS ..) (nm (hs▸F) v0 (by decide) fun pl=>?_)) (Le (f:=fA) O.at_.kind) rfl
 refine listMethod_K (hs▸N) hta slot_list_append (by kernel_rfl) ?_
 refine callWith_method1 (jf (nm (hs▸F) v4 (by decide) (jI ?_)) (Ab rfl)) (Ab rfl) (by rfl)
 have e:(vs.toArray.push (Value.int p t4))=(vs++[Value.int p t4]).toArray:=List.push_toArray ..
 refine append_K (n:=n) (hs▸F) (hs▸N) (news':=put ta (seqObj false (vs++[.int p t4]) (n+1)) led) (by rw[e];exact Gp _ hta nd) (fun h₂ F₂ N₂=>?_) (by rw[zL,←A6];exact Jm hl)
 refine wpAny_execs_cons ?_
 show wpAny _ _ (exec (.If (.Compare (EE Tb "len" [.Name (Aj Tb.names 0) _] _) [.Gt] [.Name (Aj Tb.names 1) _] _) [.Raise (some (.Name (Aj Tb.names 2) _)) none _] [] _) _) _ _ _
 rw[ht]
 refine wpAny_If (wpAny_isTrue_Compare1 ?_ rfl)
 show wpAny _ _ (eval (.Call (.Name "len" _) [.Name (Aj D.pargs 0) _] [] _) _) _ _ _
 rw[AI]
 refine zj (nameX_B (v:=.builtin "len") F₂ XK (topRead_of T) O.len (by kernel_rfl) (by decide+kernel) ?_ O.at_.kind O.lenk (by decide))
 refine PyProof.Rows.callWith_builtin1 (jf (nm F₂ v0 (by decide) (jI ?_)) (Ab rfl)) (Ab rfl) rfl
 have hsz:(vs++[Value.int p t4]).toArray.size=vs.length+1:=by rw[zL,zd];rfl
 refine len_list (Ai (.of (N₂.get (Bf hta)))) (by rw[hsz];exact Yi hl) ?_
 rw[hsz]
 refine nm F₂ v1 (by decide) (PyProof.Rows.gt_int (wpAny_truthy_bool ?_))
 rw[←Ff]
 refine(hq h₂ (s.toks+1+1) F₂ N₂ (zp (zP _) (zP _))).elim (fun h=>Aw h fun hb h=>?_) fun h=>Aw h fun hb h=>Hn h fun bvs nn ns g1 g2 g3=>?_
 ·rw[show ltI stop ((vs.length+1:Nat):Int)=true from hb,z5 rfl]
  refine wpAny_execs_cons ?_
  rw[arm_exec_Raise]
  exact zj (Ji (Iv hh (zj (zW (nm F₂ v2 (by decide) h) (fun v s₁ h₁=>zj (Ji (zF h₁))) fun _ _ x=>x))))
 ·rw[show ltI stop ((vs.length+1:Nat):Int)=false from hb,zR (fun h=>ft h)]
  refine wpAny_execs_nil (wpAny_execs_cons ?_)
  show wpAny _ _ (exec (.Return (some (.Compare (.Name (Aj Tb.names 4) _) [.In] [.Name (Aj Tb.names 3) _] _)) _) _) _ _ _
  rw[ht]
  exact wpAny_Return_some (wpAny_Compare1 (nm F₂ v4 (by decide) (nm F₂ v3 (by decide) (in_list_ints (Ai g1) g2 (fun _=>g3)))) rfl)
theorem U7{o:Obj}{p:Addr×Obj}(hp:p∈put ta o led):∃q∈led,q.1=p.1:=
 zA.mp (by rw[←Bj];exact zA.mpr ⟨p,hp,rfl⟩)
theorem N0{h₂:Heap}{o:Obj}(N:News g LA h₁ led)(N₂:∀w∈put ta o led,h₂.get? w.1=some w.2):News g LA h₂ (put ta o led):=fun w hw=>
 Aa (U7 hw) fun q hq e=>⟨N₂ w hw,by rw[←e];exact(N q hq).2⟩
theorem Tr(O:Eh c D ad cdv)(hh:A.handled=none)(T:Top pg loose mean mg mb g)(XK:c.K.In g)(B:Below A₀ base outer g)(F:Fr g LA s.heap mm)(N:News g LA s.heap led)(hA:A.frames=some (env::outer))(hf:env.frame=some LA)(hk:env.scope.kind=.function)(hr:A.depth < recursionLimit)
  (hta:(ta,seqObj false vs n)∈led) (nd:(led.map (·.1)).Nodup) (hl:vs.length < AJ) {Q:Value→Shared→Prop}
  (hq:∀h₂ tk,Fr g LA h₂ mm→News g LA h₂ (put ta (seqObj false (vs++[.int p t4]) (n+1)) led)→s.toks≤tk→
   (ltI stop (.ofNat (vs.length+1))=true∧∃e o,ev=.ref e∧h₂.get? e=some o∧CR o∧
    ∀La B' Y a0 h₃,g.get? La=none→(∀w∈put ta (seqObj false (vs++[.int p t4]) (n+1)) led,w.1≠La)→(∀{b ob},h₂.get? b=some ob→b≠e→b≠La→b∉(env::outer).filterMap (·.frame)→B'.get? b=some ob)→Hq Y→Mark B' (env::outer) e (.type Y) a0 h₃→h₂.UpToSlots h₃→E (.ref e) {s with heap:=h₃,toks:=tk})∨
   (ltI stop (.ofNat (vs.length+1))=false∧∃bvs nn ns,Cl h₂ ba false bvs nn∧IntsAre bvs ns∧Q (.bool (ns.any (· ==p))) {s with heap:=h₂,toks:=tk})):
  wpAny (model c.prog c.w) A (call (.ref ad) [.ref ta,.int stop t1,ev,.ref ba,.int p t4]) Q E s:=by
 refine DT O.at_.at_ fun dV kV doc pm an h=>Nf h fun ct oc od osl hlk hbind=>?_
 have Xh:=XK.keeps F.keep
 have look:∀{k:Nat} {w:Value},k < 5→[Value.ref ta,.int stop t1,ev,.ref ba,.int p t4][k]? =some w→List.lookup (Aj D.pargs k) ((D.AC c.self).zip (AG none++[Value.ref ta,.int stop t1,ev,.ref ba,.int p t4])).reverse=some w:=fun h1 h2=>Ke (sd:=none) (by rw[O.Af];rfl) (Iq O.at_) (O.get h1) h2
 refine Jg (callX_plain B F N T.nolimit hA hf hk (Xh _ _ hlk) rfl (codeRec_of Xh O.at_.code) hr (BindsTo.of_eq (hbind _ (Kd (sd:=none) (rvs:=[.ref ta,.int stop t1,ev,.ref ba,.int p t4]) (by rw[O.Af];rfl) O.five.symm))) (fun y hy=>DP O.at_ O.cells y.1 (Jb (b:=y.2) hy).1) (fun ga La ha FA Fa Na Ba st hlt=>?_) (E9 O.at_ O.cells) O.at_.co O.at_.gen O.at_.kind)
 refine P6 (A:=A.deeper (B9 D [] La ad cdv ga).env) O hh (T.keeps st) (XK.keeps st) Fa Na (look (by decide) rfl) (look (by decide) rfl) (look (by decide) rfl) (look (by decide) rfl) (look (by decide) rfl) hta nd hl rfl fun h₂ tk F₂ N₂ ht=>?_
 have FR:=FA.keeps fun b o e=>F₂.keep b o e
 have gn:g.get? La=none:=mJ st (kts_self Fa)
 refine(hq h₂ tk FR (N0 N fun w hw=>(N₂ w hw).1) (zp (zB _ _) ht)).imp (fun h=>Aw h fun hb h=>PH h fun e o h1 h2 h3 h4=>⟨hb,e,o,h1,h2,h3,?_⟩) fun h=>Aw h fun hb h=>Hn h fun bvs nn ns g1 g2 g3=>⟨hb,bvs,nn,ns,g1,g2,leaveK_ F₂ N₂ fun _ _=>g3⟩
 refine AH (Lq (pushX Ba F₂ (env:=(B9 D [] La ad cdv ga).env) rfl O.at_.kind) h2 h3) fun Y a0 hT mk=>?_
 exact Mark.leave (s:={s with heap:=h₂,toks:=tk}) (Around.frames_deeper hA) rfl mk fun h₃ fl sl=>h4 La _ Y a0 h₃ gn (fun w hw=>(N₂ w hw).2.1) (fun k1 k2 k3 k4=>Mx k1 k2 (GV rfl k3 k4)) hT (Mark.of fl) sl
end
section
variable {c:Cx}{C:Cfg}{S:Sx}{d:Nat}{f:Fx}{A:Around}{X:AN→St→Prop}{R R':Rec}{σ σ':St}{s s':Shared}{m:Str→Option Value}{led:List (Addr×Obj)}{K:LV→St→Prop}{Ev:Value→Shared→Prop}{Q:Value→Shared→Prop}{D:Dd}{ad:Addr}{cdv:Value}
theorem aD(r:Rel c f R σ s.heap m led){j:Nat}{stop:Int}{e:Val}{bar ys:List Val}(hj:σ.heap[j]? =some (.Ak ys)){rvs:List Value}(h:c.Vs R [.hl j,.int stop,e,.seq false bar] rvs):
  ∃ta t1 ev ba vs n bvs bn,rvs=[.ref ta,.int stop t1,ev,.ref ba]∧c.V R e ev∧R.ρ[j]? =some ta∧(ta,seqObj false vs n)∈led∧c.Vs R ys vs∧Hr (c.Z R) ba false bvs bn∧c.Vs R bar bvs:=by
 refine Aq (AU.A9 h) fun v0 r0 e0 h0 h=>Aq (AU.A9 h) fun v1 r1 e1 h1 h=>Aq (AU.A9 h) fun ev r2 e2 h2 h=>Aq (AU.A9 h) fun v3 r3 e3 h3 h=>?_
 rw[e0,e1,e2,e3,AU.C7 h]
 refine Aa (VR.af h0) fun ta e haj=>?_;subst e
 refine zg h1.HH fun t1 e=>?_;subst e
 refine AD (r.Ak hj) fun ta' vs n g1 g2 _ g4=>?_
 refine AD h3.inv fun ba bvs bn e zb _ hbs=>?_;subst e
 exact⟨ta,t1,ev,ba,vs,n,bvs,bn,rfl,h2,haj,ze (haj.symm.trans g1)▸g2,g4,zb,hbs⟩
theorem P7(hLs:∀L∈c.lams,FF L)(O:Eh c D ad cdv)(a:At c S d f A X R σ s){xs:List Val}{q:Addr}(z:Mb c R 6 xs q){v:Val}{rv:Value}(hv:c.V R v rv)(h:P5 X K xs v σ)(xo:HT c f A R s X Ev)(hq:Nx c f R s K Q):wpAny (model c.prog c.w) A (call (.ref q) [rv]) Q Ev s:=by
 refine fF (h.casesOn id) fun j stop e h=>aa h fun bar p ys hxs hvp hj hlen hend=>?_
 clear h
 subst hxs;subst hvp
 refine zg hv.HH fun t4 hrv=>?_
 subst hrv
 refine Av a.r fun m led r=>?_
 refine DS a.G.fr fun outer A₀ base hfr B=>?_
 refine DT a.G.T fun pg loose mean mg mb T=>?_
 have hroom:=a.G.depth
 induction z using Mb.casesOn with
 |mk L hL pm c' ctv oc vs t clos ad' h1 h2 h3 h4 h5 h6 h7=>
 have hLk:=hLs L hL
 rw[ze (h7.symm.trans O.at_.fad)]at h6
 refine Jg (kla_code (K:=c.K) (cl:=clos) (name:="<lambda>") (qual:=L.qual) (params:=L.params) (body:=L.body) (scope:=L.scope) (binds:=[(L.nk,.int p t4)]) B r.F a.G.X r.N T hfr rfl a.G.kind (r.zs _ h1) (codeRec_news r.N (r.zs _ h2) h3 h4) (by lia) (hLk.bind _ _ _ _ _)
  (fun y hy=>by rw[zG.mp hy];exact hLk.kk) (fun gl Ll hl FG Fl Nl Bl Xl Tl=>?_) hLk.co hLk.gen hLk.kind hLk.cell)
 have hml:List.lookup L.nk [(L.nk,Value.int p t4)].reverse=some (.int p t4):=by
  show List.lookup L.nk [(L.nk,Value.int p t4)]=_
  rw[zV,ju]
 show wpAny _ _ (eval (.Call (.Name L.nm L.p1) (KI L.nk L.p2 L.args) [] L.p0) _) _ _ _
 rw[AI]
 refine zj (nameX_K Fl Xl (topRead_of Tl) h6 ?_ hLk.kind hLk.gk hLk.dm)
 let fl:Fx:=⟨L.qual,L.scope,Ll,q,.ref c',clos,gl,[]⟩
 refine Co (f:=fl) (first:=[]) Xl O.at_.keep DC (Qa hLk Fl r.zs Nl hml h5 (fun n p hp=>hp) rfl fun rvs tk hvs htk=>⟨Xl.keeps Fl.keep,?_⟩)
 refine DT (aD r hj hvs) fun ta t1 ev ba vs' h=>fG h fun n bvs bn e1 hv2 haj g2 g4 zb hbs=>?_
 subst e1
 have hlv:vs'.length=ys.length:=g4.length
 refine Tr (A:=A.deeper fl.env) (s:={s with heap:=hl,toks:=tk}) O a.G.hh Tl Xl Bl Fl Nl (Around.frames_deeper hfr) rfl hLk.kind (by show A.depth+1 < recursionLimit;lia) g2 r.nd (by rw[hlv];exact hlen) fun h₂ tk₂ F₂ N₂ ht₂=>?_
 have FR:Fr f.h₀ f.L h₂ m:=FG.keeps F₂.keep
 have NR:=N0 r.N fun w hw=>(N₂ w hw).1
 have r₂:=r.On hj haj FR NR (AU.append g4 (.cons hv .nil)) (by rw[zd];exact hlen)
 have sm:∀h,An s {s with heap:=h,toks:=tk₂}:=fun h=>Al (zp (zp (zB _ _) htk) ht₂)
 rw[hlv]
 refine hend.imp (fun h=>Aw h fun hb h=>Aa h fun ae he hX=>⟨hb,?_⟩) fun h=>Aw h fun hb h=>Aa h fun b hin hK=>⟨hb,?_⟩
 ·subst he
  refine Aw hv2.inv fun e h=>Aa h fun o hz ho=>?_
  have hN:=NR _ (Nz (s:={s with heap:=h₂,toks:=tk₂}) r₂ hz ho)
  refine⟨ae,o,e,hN.1,ho,fun La B' Y a0 h₃ gn wn kB hT mk sl=>?_⟩
  refine Mark.leave (s:={s with heap:=h₃,toks:=tk₂}) (Around.frames_deeper hfr) rfl mk fun h₄ fl₄ sl₄=>?_
  exact xo (.user ae) _ R (.ref ae) _ (Rec.le.refl R).x (sm h₄) hX ⟨ae,Y,B',a0,m,_,outer,rfl,rfl,hT,hfr,Mark.of fl₄,fun b ob hb hn=>kB (FR.keep b ob hb) (ah hb hN.2.2) (ah (FG.keep b ob hb) gn) (GV rfl (ah (FG.keep b ob hb) (kts_self Fl)) (GV rfl (ah hb (kts_self FR)) hn)),
   fun w hw hne=>kB (NR w hw).1 hne (wn w hw) (GV rfl (N₂ w hw).2.1 (GV rfl (NR w hw).2.1 (RN B (NR w hw).2.2))),fun w hw=>(NR w hw).2.2,(Heap.UpToSlots.of_keeps FR.keep).trans (sl.trans sl₄),r₂.toRelL⟩
 ·refine Aa (ints_in hbs hin) fun ns n1 n2=>⟨bvs,bn,ns,r₂.T7 zb,n1,?_⟩
  rw[n2]
  exact leaveK_ F₂ N₂ fun _ _=>hq (.v (.bool b)) _ R (.bool b) _ (.refl R) (sm h₂) hK ⟨m,_,r₂⟩ (.v (.bool b))
theorem mu{l:LV}{P:Nat→List Val→Prop}(h:match l with | .cb k xs=>P k xs |_=>False):∃k xs,l=.cb k xs∧P k xs:=by
 induction l using LV.casesOn with
 |cb k xs=>exact⟨k,xs,rfl,h⟩
 |_=>exact h.elim
theorem LR.mq{k:Nat}{xs:List Val}{rv:Value}(h:LR c R (.cb k xs) rv):∃q,rv=.ref q∧Mb c R k xs q:=by cases h with |cb z=>exact⟨_,rfl,z⟩
theorem OW(hLs:∀L∈c.lams,FF L)(O:Eh c D ad cdv){k:Nat}{n:Str}{q p:Pos}{x:PySem.Expr}{e:E}(hn:S.names[k]? =some n)(hp:Ah x=true)(i:AE c C d S e x)(a:At c S d f A X R σ s)(xo:HT c f A R s X Ev)
  (h:BP (Ax σ.loc k) fun l=>match l with | .cb k xs=>Be (Nat.beq k 6) (B2 C X e (Bp fun v σ=>P5 X K xs v σ) σ) False |_=>False) (hq:Nx c f R s K Q):wpAny (model c.prog c.w) A (eval (.Call (.Name n q) [x] [] p) f.env) Q Ev s:=by
 refine Aa (Ad h) fun l hl h=>?_
 refine AH (mu h) fun kk xs hq1 h=>?_;subst hq1
 refine Aw (Bm h) fun hk6 h=>?_
 have hk6:=zw hk6
 subst hk6
 refine Av a.r fun m led r=>?_
 rw[AI]
 refine zj (A5 a.G a.NM r (by rw[a.names];exact hn) hl fun rv hlr=>?_)
 refine Aa hlr.mq fun qa e z=>?_
 subst e
 refine callWith_F (z.isFn r) (jf (i.go a h Ev _ xo fun l σ₁ R₁ rv₁ s₁ le sm hk r₁ hl₁=>jI ?_) (Ab hp)) (Ab hp) (AR rfl)
 have a₁:=a.up le sm r₁
 have z₁:=z.mono le.zs le.ρ
 refine Aa (Am hk) fun v hv hk=>?_
 refine Av r₁ fun m₁ led₁ r₁'=>?_
 exact⟨z₁.isFn r₁',P7 hLs O a₁ z₁ (AP hv hl₁) hk (xo.up le sm) (Nx.up hq le sm)⟩
theorem QG(hLs:∀L∈c.lams,FF L)(O:Eh c D ad cdv){k:Nat}{n:Str}{q p:Pos}{x:PySem.Expr}{e:E}(hn:S.names[k]? =some n)(hp:Ah x=true)(i:AE c C d S e x):AE c C d S (.icall k e) (.Call (.Name n q) [x] [] p):=
 fun f A X R σ s K a h Ev Q xo hq=>OW hLs O hn hp i a xo h hq
end
end
section
set_option maxHeartbeats 4000000
theorem VR.Ls{PC:Addr}{Z Z':Addr→Obj→Prop}{ρ:List Addr}(hz:∀a o,(∀v,o.data≠ .cell v)→Z a o→Z' a o){x:Val}{v:Value}(h:VR PC Z ρ x v):VR PC Z' ρ x v:=
 VR.rec (motive_1:=fun x v _=>VR PC Z' ρ x v) (motive_2:=fun xs vs _=>AU PC Z' ρ xs vs) .none (fun b=>.bool b) (fun i t=>.int i t) (fun x t h=>.str x t h)
  (fun h hl _ ih=>.seq (let⟨o,x,y,z⟩:=h;⟨o,hz _ _ (fun v e=>by rw[z]at e;cases e) x,y,z⟩) hl ih)
  (fun h hd=>.obj (hz _ _ (fun _ e=>by cases e) h) hd) (fun h ht=>.mt (hz _ _ (fun _ e=>by cases e) h) (hz _ _ (fun _ e=>by cases e) ht)) (fun hd=>.hl hd)
  (fun h ho=>.exc (hz _ _ (fun v e=>by induction ho using CR.casesOn with |mk _ _ _ _ hd _=>rw[hd]at e;cases e) h) ho) (fun a=>.ad a) .nil (fun _ _ a b=>.cons a b) h
theorem AU.Ls{PC:Addr}{Z Z':Addr→Obj→Prop}{ρ:List Addr}{xs:List Val}(hz:∀a o,(∀v,o.data≠ .cell v)→Z a o→Z' a o):∀{vs:List Value},AU PC Z ρ xs vs→AU PC Z' ρ xs vs:=by
 induction xs with
 |nil=>intro vs h;rw[AU.C7 h];exact .nil
 |cons x xs ih=>intro vs h;refine Aq (AU.A9 h) fun v ws e a b=>?_;rw[e];exact .cons (a.Ls hz) (ih b)
noncomputable def Rec.fixC(R:Rec)(ps:List (Addr×Obj)):Rec:=⟨R.ρ,R.ω,ps++R.zs,R.ex.filter (fun q=> !((ps.map (·.1)).contains q.1)),R.sd⟩
noncomputable def Rec.Dt(R:Rec)(ks:List Addr)(ex:List (Addr×Obj)):Rec:=⟨R.ρ,R.ω,R.zs.filter (fun q=> !(ks.contains q.1)),ex,R.sd⟩
noncomputable def Fx.ig(f:Fx):Fx:=⟨f.cn,f.cs,f.L,f.fa,f.cd,f.cl,f.h₀,[]⟩
theorem Em{p:Addr×Obj}{ks:List Addr}{l:List (Addr×Obj)}:p∈l.filter (fun q=> !(ks.contains q.1))↔p∈l∧p.1∉ks:=by
 rw[z9,JH,jk,decide_eq_false_iff_not]
section
variable {c:Cx}{f:Fx}{R R':Rec}{σ σ':St}{h:Heap}{m:Str→Option Value}{led:List (Addr×Obj)}{ps:List (Addr×Obj)}
theorem E8:∀q∈R.zs,q∈(R.fixC ps).zs:=fun q hq=>zi _ hq
theorem V.T3{x:Val}{rv:Value}(y:c.V R x rv):c.V (R.fixC ps) x rv:=VR.mono (fun a o z=>z.imp id fun z=>E8 _ z) ⟨[],(zE _).symm⟩ y
theorem LR.T3{l:LV}{rv:Value}(y:LR c R l rv):LR c (R.fixC ps) l rv:=by
 have hr:∃t,(R.fixC ps).ρ=R.ρ++t:=⟨[],(zE _).symm⟩
 induction y using LR.casesOn with
 |v y=>exact .v (V.T3 y)
 |loc e=>exact .loc e
 |app e q=>exact .app e (q.imp id fun z=>E8 _ z)
 |cb z=>exact .cb (z.mono E8 hr)
theorem Rel.fix(r:Rel c f R σ h m led)(hx:∀p∈ps,p∈R.ex):Rel c f (R.fixC ps) σ h m led:=by
 have up:∀v rv,LR c R v rv→LR c (R.fixC ps) v rv:=fun _ _ y=>y.T3
 refine{F:=r.F,N:=r.N,nd:=r.nd,slots:=fun k n v hk hv=>BF (fun _ _ _ x=>x) (fun _ y=>up _ _ y) (r.slots k n v hk hv),clo:=r.clo,self:=fun x dx hs=>?_,self0:=r.self0,ml:=r.ml,hlen:=r.hlen,cells:=fun j ce hj ho=>?_,oln:=r.oln,owns:=fun k xs hk=>?_,zs:=fun p hp=>?_,ex:=fun p hp=>r.ex p (Em.mp hp).1,D1:=r.D1,D2:=r.D2,D3:=fun a ha p hp=>?_,D4:=fun p hp q hq=>?_,B:=r.B}
 ·obtain⟨a1,a2,es,n,a3,a4⟩:=r.self x dx hs
  exact⟨a1,a2.imp id fun z=>E8 _ z,es,n,a3,Ar.same up a4⟩
 ·refine Aq (r.cells j ce hj ho) fun a o a1 a2 a3=>?_
  exact⟨a,o,a1,a2,Ct.imp (R:=R) (R':=R.fixC ps) (fun _ _ y=>V.T3 y) a3⟩
 ·refine AD (r.owns k xs hk) fun a vs n a1 a2 a3 a4=>?_
  exact⟨a,vs,n,a1,a2,a3,AU.mono (fun a o z=>z.imp id fun z=>E8 _ z) ⟨[],(zE _).symm⟩ a4⟩
 ·rcases zt.mp hp with hp |hp
  ·exact r.ex _ (hx _ hp)
  ·exact r.zs p hp
 ·rcases zt.mp hp with hp |hp
  ·rcases zt.mp hp with hp |hp
   ·exact r.D3 a ha _ (zi _ (hx _ hp))
   ·exact r.D3 a ha p (zk _ hp)
  ·exact r.D3 a ha p (zi _ (Em.mp hp).1)
 ·have hq:=Em.mp hq
  rcases zt.mp hp with hp |hp
  ·exact fun e'=>hq.2 (e'▸zA.mpr ⟨p,hp,rfl⟩)
  ·exact r.D4 p hp q hq.1
theorem ES{led:List (Addr×Obj)}(nd:(led.map (·.1)).Nodup){a:Addr}{o o':Obj}(h1:(a,o)∈led)(h2:(a,o')∈led):o=o':=by
 induction led with
 |nil=>cases h1
 |cons p r ih=>
  have nd:=jg.mp nd
  rcases zI.mp h1 with e1 |h1 <;>rcases zI.mp h2 with e2 |h2
  ·exact zy Prod.snd (e1.trans e2.symm)
  ·exact absurd (zA.mpr ⟨(a,o'),h2,(zy Prod.fst e1:a=p.1)⟩) nd.1
  ·exact absurd (zA.mpr ⟨(a,o),h1,(zy Prod.fst e2:a=p.1)⟩) nd.1
  ·exact ih nd.2 h1 h2
theorem gz(nd:(led.map (·.1)).Nodup)(hz:∀p∈R.zs,p∈led)(hc:∀p∈ps,p∈R.zs)(hd:∀p∈ps,∃v,p.2.data=.cell v){ex:List (Addr×Obj)}:∀a o',(∀v,o'.data≠ .cell v)→c.Z R a o'→c.Z (R.Dt (ps.map (·.1)) ex) a o':=fun a o' hn z=>z.imp id fun z=>Em.mpr ⟨z,fun hm=>by
 refine Aa (zA.mp hm) fun p hp e=>zg (hd p hp) fun v hv=>hn v ?_
 obtain⟨b,o⟩:=p
 have e:b=a:=e
 subst e
 rw[ES nd (hz _ z) (hz _ (hc _ hp))];exact hv⟩
theorem RelL.Dt(r:RelL c f R σ m led)(hc:∀p∈ps,p∈R.zs)(hd:∀p∈ps,∃v,p.2.data=.cell v){ex:List (Addr×Obj)}(hex:∀p∈ex,p.1∈ps.map (·.1)→p∈R.zs)(hex':∀p∈ex,p.1∉ps.map (·.1)→p∈R.ex){fs':List (Option Val)}(hf:fz σ.own σ.self=some fs'):
  RelL c f.ig (R.Dt (ps.map (·.1)) ex) σ m led:=by
 have up:∀{x v},c.V R x v→c.V (R.Dt (ps.map (·.1)) ex) x v:=fun y=>VR.Ls (gz r.nd r.zs hc hd) y
 have ups:∀{x v},c.Vs R x v→c.Vs (R.Dt (ps.map (·.1)) ex) x v:=fun y=>AU.Ls (gz r.nd r.zs hc hd) y
 refine{nd:=r.nd,slots:=fun k n v hk _=>(by cases hk),clo:=r.clo,self:=fun x dx hs=>?_,self0:=r.self0,ml:=r.ml,hlen:=r.hlen,cells:=fun j ce hj ho=>?_,oln:=r.oln,owns:=fun k xs hk=>?_,zs:=fun p hp=>r.zs p (Em.mp hp).1,ex:=fun p hp=>?_,D1:=r.D1,D2:=r.D2,D3:=fun a ha p hp=>?_,D4:=fun p hp q hq=>?_,B:=r.B}
 ·obtain⟨a1,a2,es,n,a3,a4⟩:=r.self x dx hs
  refine⟨a1,gz r.nd r.zs hc hd _ _ (fun _ e=>by cases e) a2,es,n,a3,?_⟩
  refine HO a4 fun b1 b2 b3 b4=>⟨fun k n hk=>?_,b2,b3,b4⟩
  have h1:=b1 k n hk
  have h2:=(Ms hf).2 k
  revert h1 h2
  induction Ax σ.self k using zh with
  |none=>exact fun h1 _=>h1
  |some v=>
   intro h1 h2
   refine Aa h1 fun rv h1 h1'=>Aa h2 fun x h2 _=>⟨rv,h1,?_⟩
   induction h1' using LR.casesOn with
   |v y=>exact .v (up y)
   |loc e=>exact .loc e
   |app _ _=>cases h2
   |cb _=>cases h2
 ·refine Aq (r.cells j ce hj ho) fun a o a1 a2 a3=>?_
  exact⟨a,o,a1,a2,Ct.imp (R:=R) (R':=R.Dt (ps.map (·.1)) ex) (fun _ _ y=>up y) a3⟩
 ·refine AD (r.owns k xs hk) fun a vs n a1 a2 a3 a4=>?_
  exact⟨a,vs,n,a1,a2,a3,ups a4⟩
 ·by_cases e:p.1∈ps.map (·.1)
  ·exact r.zs _ (hex p hp e)
  ·exact r.ex p (hex' p hp e)
 ·rcases zt.mp hp with hp |hp
  ·exact r.D3 a ha p (zk _ (Em.mp hp).1)
  ·by_cases e:p.1∈ps.map (·.1)
   ·exact r.D3 a ha _ (zk _ (hex p hp e))
   ·exact r.D3 a ha p (zi _ (hex' p hp e))
 ·have hp:=Em.mp hp
  by_cases e:q.1∈ps.map (·.1)
  ·exact fun e'=>hp.2 (e'▸e)
  ·exact r.D4 p hp.1 q (hex' q hq e)
theorem Uy(r:RelL c f R σ m led)(hc:∀p∈ps,p∈R.zs)(hd:∀p∈ps,∃v,p.2.data=.cell v){ex:List (Addr×Obj)}{l:LV}{x:Val}{rv:Value}(hl:look σ.own l=some x)(y:LR c R l rv):LR c (R.Dt (ps.map (·.1)) ex) l rv:=by
 induction y using LR.casesOn with
 |v y=>exact .v (VR.Ls (gz r.nd r.zs hc hd) y)
 |loc e=>exact .loc e
 |app _ _=>cases hl
 |cb _=>cases hl
theorem NB(r:RelL c f R σ m led)(hx:∀p∈ps,p∈R.ex)(le:(R.fixC ps).Lm R'):R.Lm (R'.Dt (ps.map (·.1)) R.ex):=
 ⟨le.ρ,fun p hp=>Em.mpr ⟨le.zs p (E8 _ hp),fun hm=>Aa (zA.mp hm) fun q hq e=>r.D4 p hp q (hx q hq) e.symm⟩,fun _ h=>h,le.sd⟩
theorem XX(r:RelL c f R σ m led)(hx:∀p∈ps,p∈R.ex)(le:(R.fixC ps).le R'):R.le (R'.Dt (ps.map (·.1)) R.ex):=
 ⟨le.ρ,le.ω,(NB r hx le.x).zs,rfl,le.sd⟩
theorem QV(r:RelL c f R σ m led)(hx:∀p∈ps,p∈R.ex)(le:(R.fixC ps).Lm R'):(∀p∈ps,p∈R'.zs)∧(∀p∈R.ex,p.1∈ps.map (·.1)→p∈R'.zs)∧∀p∈R.ex,p.1∉ps.map (·.1)→p∈R'.ex:=
 ⟨fun p hp=>le.zs p (zk _ hp),fun p hp hm=>by
  refine Aa (zA.mp hm) fun q hq e=>?_
  obtain⟨a,o⟩:=p
  obtain⟨b,o'⟩:=q
  have e:b=a:=e
  subst e
  rw[ES r.nd (r.ex _ hp) (r.ex _ (hx _ hq))]
  exact le.zs _ (zk _ hq),fun p hp hn=>le.ex _ (Em.mpr ⟨hp,hn⟩)⟩
end
end
section
set_option maxHeartbeats 4000000
section
variable {c:Cx}{d:Nat}{f:Fx}{A₀ A:Around}{R:Rec}{σ:St}{s:Shared}{m:Str→Option Value}{led:List (Addr×Obj)}{sd:Option (Addr×Addr)}{fs:List (Option Val)}{hp:List Cell}{D:Dd}{k:Nat}{a:Addr}{cdv:Value}{ps:List (Addr×Obj)}
theorem Rel.V0{h:Heap}(r:Rel c f R σ h m led){loc:List (Option LV)}(hs:∀(k:Nat) (n:Str) (v:LV),f.names[k]? =some n→Ax loc k=some v→∃rv,f.cs.names.lookup n=some .local∧m n=some rv∧LR c R v rv):Rel c f R ⟨loc,σ.own,σ.self,σ.heap⟩ h m led:=
 {r with slots:=fun k n v hk hv=>BZ (hs k n v hk hv) fun rv h1 h2 h3=>(by rw[h1];exact⟨rv,h2,h3⟩)}
theorem ZF{v u:LV}{n:Nat}:∀{k:Nat},Ax (some v::Bz n:List (Option LV)) k=some u→k=0∧u=v
 |0,h=>⟨rfl,(ze h).symm⟩
 |k+1,h=>nomatch (Fj (k:=k)).symm.trans (show Ax (Bz n) k=some u from h)
theorem Qr{C C':Cfg}{P:Kx}{Ds:List (Dd×Addr×Value)}{K:Val→List (Option Val)→List Cell→Prop}{X:AN→List (Option Val)→List Cell→Prop}{Rp:PySem.Result→Shared→Prop}{ka:Nat}{xs:List Val}{qa:Addr}
  (H:Dz c P Ds) (hC:C.call=A8 P (d+1)) (hC':C'=⟨P.rx,A8 P d,P.init,P.nf⟩) {fn:Fn} (hD:Ds[k]? =some (D,a,cdv)) (hf:P.fns[k]? =some fn) (hm:D.Af=true)
  (hb:IM c C' d D.body D.qual D.scope a cdv D.names D.Af fn.body) (hcall:C.call (2000+k) fs (.int (.ofNat ka)::xs) hp K X)
  (q:Os c (d+1) f A₀ A R σ s m led sd [] [] fs hp D.Af) (hx:∀p∈ps,p∈(R.call led sd).ex) (hoc:∀p∈ps,∃v,p.2.data=.cell v) (z:Mb c ((R.call led sd).fixC ps) ka xs qa) (hok:PU c f R s m led sd K Rp) (hox:Me c f A R s m led sd X Rp):
  codeAny (model c.prog c.w) A (.call (.ref a) ⟨AG sd++[.ref qa],[]⟩) Rp s:=by
 have At:=H.hfn k D a cdv hD
 have hcl:=H.cel k D a cdv hD hm
 have hk:k < 1000:=by
  have h1:=(zn.mp hD).1
  have:=H.few
  lia
 rw[hC]at hcall
 have no1:P.fns[2000+k]? =none:=Jy (by rw[H.hlen];have:=H.few;lia)
 have hcall:(match P.fns[2000+k]? with |some fn=>_ |none=>match P.fns[2000+k - 2000]?,(Val.int (.ofNat ka)::xs)with
    |some fn,.int (.ofNat k)::xs=>Be (Nat.beq 1 fn.ar) (Au ⟨P.rx,A8 P d,P.init,P.nf⟩ (Dv X) fn.body (Ef K) ⟨some (.cb k xs)::Bz fn.nloc,[],B1 fs,hp⟩) False
    |_,_=>False):=hcall
 rw[no1]at hcall
 have hcall:(match P.fns[2000+k - 2000]?,(Val.int (.ofNat ka)::xs)with
    |some fn,.int (.ofNat k)::xs=>Be (Nat.beq 1 fn.ar) (Au ⟨P.rx,A8 P d,P.init,P.nf⟩ (Dv X) fn.body (Ef K) ⟨some (.cb k xs)::Bz fn.nloc,[],B1 fs,hp⟩) False
    |_,_=>False):=hcall
 rw[jS,hf]at hcall
 refine Aw (Bm hcall) fun har0 hw=>?_
 rw[←hC']at hw
 have har:1=D.pargs.length:=(zw har0).trans (H.har k D a cdv fn hD hf)
 have hargs:(AG sd++[Value.ref qa]).length=(D.AC c.self).length:=Kd q.hmeth har
 refine DS q.G.fr fun outer A₁ base hfr₀ B₀=>?_
 have hfr:A.frames=some (f.env::outer):=q.nr.f.trans hfr₀
 refine DT q.G.T fun p loose mean mg mb T=>?_
 refine DT At.at_ fun dV kV doc pm an h=>Nf h fun ct oc' od osl hlk hbind=>?_
 have Xs:c.K.In s.heap:=q.G.X.keeps q.r.F.keep
 refine callX_plain B₀ q.r.F q.r.N T.nolimit hfr rfl q.G.kind (Xs _ _ hlk) rfl (codeRec_of Xs At.code) q.room (BindsTo.of_eq (hbind _ hargs)) (fun y hy=>DP At hcl y.1 (Jb (b:=y.2) hy).1) (fun g L' h₁ FG F N B' st hlt=>?_) (E9 At hcl) At.co At.gen At.kind
 have r₀:Rel c (B9 D [] L' a cdv g) (R.call led sd) ⟨[],[],B1 fs,hp⟩ h₁ (fun y=>((D.AC c.self).zip (AG sd++[.ref qa])).reverse.lookup y) led:=
  q.r.enter (f':=B9 D [] L' a cdv g) (cells:=[]) F N rfl List.nodup_nil (fun _ _ _ h=>nomatch h) (fun b o e=>st b o (q.r.B b o e)) (fun j n v hn hv=>by cases hv) (fun _ _ h=>nomatch h) (fun x dx e=>by
   refine Aw (q.hself x dx e) fun z1 z2=>?_
   exact⟨N6 q.hmeth (Iq At) e,z1,z2⟩) (fun e=>by rw[q.hself0 e];rfl) q.hh q.hlen q.hdx
 have r₁:=(r₀.fix hx).V0 (loc:=some (.cb ka xs)::Bz fn.nloc) fun j n v hn hv=>by
  refine Aw (ZF hv) fun e1 e2=>?_
  subst e1;subst e2
  have hnj:D.pargs[0]? =some n:=by
   have hn:(D.pargs++D.locs)[0]? =some n:=hn
   rwa[zJ (har▸Nat.one_pos)]at hn
  exact⟨.ref qa,DP At hcl n (by rw[Ep hm];exact .tail _ (zQ hnj)),Ke q.hmeth (Iq At) hnj rfl,.cb z⟩
 have G':L8 c (B9 D [] L' a cdv g) (A.deeper (B9 D [] L' a cdv g).env) d:=q.G.call q.nr hfr B' At.kind st
 have NM:E4 c (B9 D [] L' a cdv g):=Fh At hcl.symm List.nodup_nil
 have sm₁:An s {s with heap:=h₁,toks:=s.toks+((D.AC c.self).zip (AG sd++[.ref qa])).length}:=Al (zB _ _)
 refine hb (B9 D [] L' a cdv g) _ ((R.call led sd).fixC ps) _ {s with heap:=h₁,toks:=s.toks+((D.AC c.self).zip (AG sd++[.ref qa])).length} _ _ (Dv X) (Ef K) rfl rfl rfl rfl rfl q.hmeth G' NM (R8 q.hmeth hargs) r₁ hw _ _
  (fun x σ' R' ev s' le sm hx' he=>H4 (f':=B9 D [] L' a cdv g) (f'':=(B9 D [] L' a cdv g).ig) (R'':=R'.Dt (ps.map (·.1)) (R.call led sd).ex) hox sm₁ hfr FG (kts_self F) (NB r₀.toRelL hx le) (fun m' led' fs' r' HD=>Bx (QV r₀.toRelL hx le) fun x1 x2 x3=>r'.Dt x1 hoc x2 x3 HD) sm hx' he fun _ h=>h) PassesOwn.leaving fun o σ' R' fl s' le sm hk rx hfl=>?_
 refine Av rx fun m' led' r'=>?_
 have fin:∀{lv:LV} {rv:Value},OL K lv σ'→LR c R' lv rv→LeaveK f.h₀ f.L m g Rp rv s':=fun{lv rv} hk hlr=>by
  refine Aa (Ad hk) fun x hx' hk=>?_
  refine Aa (Ad hk) fun fs' HD hk=>?_
  refine Bx (QV r₀.toRelL hx le.x) fun x1 x2 x3=>?_
  exact leaveK_ r'.F r'.N fun F'' N''=>hok x fs' σ'.heap rv s' (B9 D [] L' a cdv g).ig _ σ' m' led' lv hk (sm₁.trans sm) (XX r₀.toRelL hx le) ((r'.toRelL.Dt x1 hoc x2 x3 HD).at_ r'.F r'.N) hx' (Uy r'.toRelL x1 hoc hx' hlr) HD rfl F'' N''
 induction o using Out.casesOn with
 |next=>cases fl with
  |next=>exact fin (lv:=.v .none) hk (.v .none)
  |_=>exact hfl.elim
 |ret lv=>cases fl with
  |ret rv=>exact fin hk hfl
  |_=>exact hfl.elim
 |brk=>exact hk.elim
 |cont=>exact hk.elim
end
end
section
set_option maxHeartbeats 4000000
section
variable {c:Cx}{f:Fx}{R R':Rec}{σ σ':St}{h h':Heap}{m:Str→Option Value}{led:List (Addr×Obj)}
noncomputable def Rec.ac(R:Rec)(led:List (Addr×Obj)):Rec:=BV ⟨[],[],[],R.ex,R.sd⟩ R led
theorem Rel.freeze(r:Rel c f R σ h m led)(hs:R.sd=none){loc':List (Option Val)}(hl:fz σ.own σ.loc=some loc'):Rel c f (R.ac led) ⟨B1 loc',[],[],σ.heap⟩ h m led:=by
 have upz:∀a o,c.Z R a o→c.Z (R.ac led) a o:=fun _ _ z=>z.imp id fun z=>zk _ z
 have up:∀x v,c.V R x v→c.V (R.ac led) x v:=fun _ _ y=>VR.mono upz ⟨[],(zE _).symm⟩ y
 have mut':∀a,F6 f (R.ac led) a→F6 f R a∧a∉R.ω:=fun a ha=>by
  rcases ha with ha |ha |ha |⟨x,ha⟩
  ·exact⟨.inl ha,fun hb=>EB r.D1 ha hb rfl⟩
  ·cases ha
  ·exact⟨.inr (.inr (.inl ha)),fun hb=>Mc r.D1 hb ha rfl⟩
  ·have ha:R.sd=some (x,a):=ha
   rw[hs]at ha;cases ha
 have own:∀p∈led.filter (fun p=>R.ω.contains p.1),p∈led∧p.1∈R.ω:=fun p hp=>by
  have hp:=z9.mp hp
  refine⟨hp.1,?_⟩
  have:=hp.2
  rw[jk]at this
  exact zX this
 refine{F:=r.F,N:=r.N,nd:=r.nd,slots:=fun k n v hk hv=>?_,clo:=r.clo,self:=fun x dx e=>?_,self0:=fun _=>rfl,ml:=fun a ha=>r.ml a (mut' a ha).1,hlen:=r.hlen,cells:=fun j ce hj ho=>?_,oln:=rfl,owns:=fun k xs hk=>(by cases hk),zs:=fun p hp=>?_,ex:=r.ex,D1:=?_,D2:=fun x dx e=>?_,D3:=fun a ha p hp=>?_,D4:=fun p hp q hq=>?_,B:=r.B}
 ·have g:=(Ms hl).2 k
  have h0:=r.slots k n
  revert g h0
  induction Ax σ.loc k using zh with
  |none=>intro g;rw[show Ax (B1 loc') k=some v from hv]at g;cases g
  |some l=>
   intro g h0
   refine Aa g fun x g1 g2=>?_
   have e:=ze (g2.symm.trans hv)
   subst e
   exact BF (fun _ _ _ y=>y) (fun _ y=>.v (Fq r.toRelL g1 y)) (h0 l hk rfl)
 ·have e:R.sd=some (x,dx):=e
  rw[hs]at e;cases e
 ·refine Aq (r.cells j ce hj ho) fun a o a1 a2 a3=>?_
  exact⟨a,o,a1,a2,Ct.imp (R:=R) (R':=R.ac led) up a3⟩
 ·rcases zt.mp hp with hp |hp
  ·exact r.zs p hp
  ·exact(own p hp).1
 ·show(R.ρ++[]++List.map (fun p:Str×Addr=>p.2) f.cl).Nodup
  rw[zE,zZ]
  exact⟨Gq r.D1,gB r.D1,fun a ha b hb=>E3 r.D1 ha hb⟩
 ·have e:R.sd=some (x,dx):=e
  rw[hs]at e;cases e
 ·refine Aw (mut' a ha) fun h1 h2=>?_
  rcases zt.mp hp with hp |hp
  ·rcases zt.mp hp with hp |hp
   ·exact r.D3 a h1 p (zk _ hp)
   ·exact fun e=>h2 (e▸(own p hp).2)
  ·exact r.D3 a h1 p (zi _ hp)
 ·rcases zt.mp hp with hp |hp
  ·exact r.D4 p hp q hq
  ·exact fun e=>r.D3 p.1 (.inr (.inl (own p hp).2)) q (zi _ hq) e.symm
theorem Rel.aZ(r:Rel c f R σ h m led){P:Addr}{o o':Obj}(hx:(P,o)∈R.ex)(F:Fr f.h₀ f.L h' m)(N:News f.h₀ f.L h' (put P o' led)):Rel c f ⟨R.ρ,R.ω,R.zs,put P o' R.ex,R.sd⟩ σ h' m (put P o' led):=by
 have nM:∀a,F6 f R a→a≠P:=fun a ha e=>r.D3 a ha _ (zi _ hx) e.symm
 have nz:∀p∈R.zs,p.1≠P:=fun p hp=>r.D4 p hp _ hx
 have hc:P∉f.cl.map (·.2):=fun hb=>nM P (.inr (.inr (.inl hb))) rfl
 have keys:∀p∈put P o' R.ex,∃q∈R.ex,q.1=p.1:=fun p hp=>by
  refine Aa (zA.mp hp) fun q hq e=>⟨q,hq,?_⟩
  by_cases hqa:q.1=P
  ·rw[z5 hqa]at e;rw[←e];exact hqa
  ·rw[zR hqa]at e;rw[e]
 have up:∀v rv,LR c R v rv→LR c ⟨R.ρ,R.ω,R.zs,put P o' R.ex,R.sd⟩ v rv:=fun _ _ y=>LR.El (ex:=put P o' R.ex) y
 refine{F:=F,N:=N,nd:=by rw[Bj];exact r.nd,slots:=fun k n v hk hv=>BF (fun _ _ _ x=>x) (fun _ y=>up _ _ y) (D7 r hc hk hv),clo:=Gc r hc,self:=fun x dx hs=>?_,self0:=r.self0,ml:=fun a ha=>by rw[Bj];exact r.ml a ha,hlen:=r.hlen,cells:=fun j ce hj ho=>?_,oln:=r.oln,owns:=fun k xs hk=>?_,zs:=fun p hp=>AB (r.zs p hp) (nz p hp),ex:=fun p hp=>?_,D1:=r.D1,D2:=r.D2,D3:=fun a ha p hp=>?_,D4:=fun p hp q hq=>?_,B:=r.B}
 ·obtain⟨a1,a2,es,n,a3,a4⟩:=r.self x dx hs
  exact⟨a1,a2,es,n,AB a3 (nM dx (.inr (.inr (.inr ⟨x,hs⟩)))),Ar.same up a4⟩
 ·refine Aq (r.cells j ce hj ho) fun a o a1 a2 a3=>?_
  exact⟨a,o,a1,AB a2 (nM a (.inl (Az a1))),Ct.imp (R:=R) (R':=⟨R.ρ,R.ω,R.zs,put P o' R.ex,R.sd⟩) (fun _ _ y=>y) a3⟩
 ·refine AD (r.owns k xs hk) fun a vs n a1 a2 a3 a4=>?_
  exact⟨a,vs,n,a1,AB a2 (nM a (.inr (.inl (Az a1)))),a3,a4⟩
 ·refine Aa (zA.mp hp) fun q hq e=>?_
  exact zA.mpr ⟨q,r.ex q hq,e⟩
 ·rcases zt.mp hp with hp |hp
  ·exact r.D3 a ha p (zk _ hp)
  ·refine Aa (keys p hp) fun q hq e=>?_
   rw[←e];exact r.D3 a ha q (zi _ hq)
 ·refine Aa (keys q hq) fun q' hq' e=>?_
  rw[←e];exact r.D4 p hp q' hq'
end
end
section
set_option maxHeartbeats 4000000
noncomputable def L9(names:List Str)(loc:List (Option LV)):List (Cu×Pos)→List Val→Prop
 |[],xs=>xs=[]
 |(.free n,_)::as,xs=>∃i x ys,xs=x::ys∧names[i]? =some n∧Ax loc i=some (.v x)∧L9 names loc as ys
 |(.num i,_)::as,xs=>∃ys,xs=.int i::ys∧L9 names loc as ys
noncomputable def tabOf:List (Pos×Addr)→List Value
 |[]=>[]
 |(p,a)::r=>rawInt p.line::rawInt p.col::.ref a::tabOf r
theorem LU:∀l:List (Pos×Addr),TriplesOk (tabOf l)
 |[]=>trivial
 |(_,_)::r=>LU r
theorem Hh{p:Pos}{a:Addr}:∀l:List (Pos×Addr),tabOf (l++[(p,a)])=tabOf l++[rawInt p.line,rawInt p.col,.ref a]
 |[]=>rfl
 |(q,b)::r=>zy (fun z=>rawInt q.line::rawInt q.col::Value.ref b::z) (Hh r)
theorem Hg{pos:Pos}:∀{l:List (Pos×Addr)},(∀q∈l,q.1.line≠pos.line)→codeAmong pos (tabOf l)=none
 |[],_=>rfl
 |(q,b)::r,h=>by
  have h1:=h _ (.head _)
  show(if _ then _ else codeAmong pos (tabOf r))=none
  rw[zR,Hg fun p hp=>h p (.tail _ hp)]
  intro e
  have e:=(zH.mp e).1
  have e:((q.line:Nat):Int)=(pos.line:Int):=eq_of_beq e
  exact h1 (Int.ofNat.inj e)
section
variable {c:Cx}{C C':Cfg}{S:Sx}{d:Nat}{f:Fx}{A:Around}{X:AN→St→Prop}{R R':Rec}{σ σ':St}{s s':Shared}{m:Str→Option Value}{led:List (Addr×Obj)}{Ev:Value→Shared→Prop}
structure KB(c:Cx)(f:Fx)(L:Cv)(P cc:Addr)(clos:List (Str×Addr)):Prop where
 hd:CodeHd f.h₀ cc P
 cd:f.cd=.ref cc
 cls:closureFor L.scope f.env=pure clos
 look:∀n p,(Cu.free n,p)∈L.args→f.cs.names.lookup n=some .cell∧∃ca,clos.lookup n=some ca∧f.cl.lookup n=some ca
 sub:∀b∈clos.map (·.2),∃n,f.cl.lookup n=some b
 qual:f.env.qual++"<lambda>"=L.qual
 dflt:defaultsOf L.params f.env=([],[])
 gl:∃ad,nsIn c.K mainGlobals L.nm=some (some (.ref ad))∧c.fad[6]? =some ad
theorem P9{h:Heap}(r:Rel c f R σ h m led){clos:List (Str×Addr)}(hz:∀p∈R.zs,p∈R'.zs)(hρ:∃t,R'.ρ=R.ρ++t)(hled:∀p∈led,p.1∈clos.map (·.2)→p∈R'.zs){as:List (Cu×Pos)}:
  ∀{xs:List Val},L9 f.names σ.loc as xs→(∀n p,(Cu.free n,p)∈as→f.cs.names.lookup n=some .cell∧∃ca,clos.lookup n=some ca∧f.cl.lookup n=some ca)→FE c R' clos as xs:=by
 induction as with
 |nil=>exact fun h _=>h
 |cons a as ih=>
  intro xs h hc
  obtain⟨a,p⟩:=a
  induction a using Cu.casesOn with
  |free n=>
   obtain⟨i,x,ys,e,h1,h2,h3⟩:=h
   subst e
   refine Aw (hc n p (.head _)) fun k1 k2=>Aa k2 fun ca k2 k3=>?_
   have hs:=r.slots i n _ h1 h2
   rw[k1]at hs
   refine AD hs fun a o rv a1 a2 a3 a4=>?_
   have e:=ze (k3.symm.trans a1)
   subst e
   exact⟨x,ys,ca,o,rv,rfl,k2,hled _ a2 (lookup_mem k2),a3,VR.mono (fun _ _ z=>z.imp id fun z=>hz _ z) hρ (AP rfl a4),ih h3 fun n p hp=>hc n p (.tail _ hp)⟩
  |num i=>exact Aa h fun ys e h'=>⟨ys,e,ih h' fun n p hp=>hc n p (.tail _ hp)⟩
theorem Uq{P:Kx}{Ds:List (Dd×Addr×Value)}(H:Dz c P Ds)(hC:C.call=A8 P (d+1))(hC':C'=⟨P.rx,A8 P d,P.init,P.nf⟩){kf:Nat}{D:Dd}{ad:Addr}{cdv:Value}{fn:Fn}(hD:Ds[kf]? =some (D,ad,cdv))(hf:P.fns[kf]? =some fn)(hmD:D.Af=true)
  (hb:IM c C' d D.body D.qual D.scope ad cdv D.names D.Af fn.body) (a:At c S (d+1) f A X R σ s) (hm:S.Af=false) {L:Cv} (hL:L∈c.lams)
  {n nj:Str} {j t:Nat} {q q' pl p:Pos} (hj:S.names[j]? =some nj) (hmt:PP c n kf) (hl1:(q.endLine==p.line)=true) {Pt cc:Addr} {clos:List (Str×Addr)} (la:KB c f L Pt cc clos)
  {fs:List (Option Val)} {xs:List Val} (hlj:Ax σ.loc j=some (.v (.obj t))) (hfl:σ.heap[t]? =some (Ag.Cell.Ao fs)) (hargs:L9 f.names σ.loc L.args xs) {tb:List (Pos×Addr)}
  (hP:(Pt,tabObj (tabOf tb).toArray)∈R.ex) (htb:codeAmong pl (tabOf tb)=none) {K:Val→List (Option Val)→List Cell→Prop} {X':AN→List (Option Val)→List Cell→Prop} (hcall:C.call (2000+kf) fs (.int (.ofNat 6)::xs) (σ.heap.set t .taken) K X')
  {Q:Value→Shared→Prop} (hq:∀r fs' h' R' s' c' rv,K r fs' h'→An s s'→Ap c f R' (σ.BA (h'.set t (.Ao fs'))) s'.heap→R'.sd=none→(Pt,tabObj (tabOf (tb++[(pl,c')])).toArray)∈R'.ex→c.V R' r rv→Q rv s')
  (hxq:∀e T B a0 outer fs' h' R' m' led' c' s',X' (.user e) fs' h'→An s s'→R'.sd=none→Hq T→A.frames=some (f.env::outer)→Heap.FlyingW B (f.env::outer) e (.type T) a0 s'.heap→(∀b o,f.h₀.get? b=some o→b∉outer.filterMap (·.frame)→B.get? b=some o)→
   (∀p∈led',p.1≠e→B.get? p.1=some p.2)→(∀p∈led',f.h₀.get? p.1=none)→f.h₀.UpToSlots s'.heap→s'.heap.Ns f.L m'→RelL c f R' (σ.BA (h'.set t (.Ao fs'))) m' led'→(Pt,tabObj (tabOf (tb++[(pl,c')])).toArray)∈R'.ex→Ev (.ref e) s'):
  wpAny (model c.prog c.w) A (eval (.Call (.Attribute (.Name nj q') n q) [.Lambda L.params L.body L.scope pl] [] p) f.env) Q Ev s:=by
 have hsd:R.sd=none:=by
  have:=a.Af
  rw[hm]at this
  induction q:R.sd using zh with
  |none=>rfl
  |some _=>rw[q]at this;cases this
 refine L7 hmt.at_ fun ad' h1 h2 h3 h4=>?_
 have had:ad'=ad:=ze (h1.symm.trans (H.hfn kf D ad cdv hD).fad)
 subst had
 refine Av a.r fun m led r0=>?_
 refine AY (fun _ _ _=>rfl) rfl (zC rfl) hl1 (A5 a.G a.NM r0 (by rw[a.names];exact hj) hlj fun rv hlr plr=>?_)
 have hV:=AP (x:=.obj t) rfl hlr
 refine Aq (VR.UL hV) fun x dx hq2 z hd=>?_;subst hq2
 refine Hn (r0.Ao hfl) fun dx' es' n' z0 z1 z2=>?_
 rw[hd]at z0;cases z0
 have I:InstAt s.heap x (instObj c.PC dx) c.PC (some (dictOf es' n')):=⟨r0.get z,rfl,rfl,r0.BE z1⟩
 refine method_inst r0.F a.G.X I hmt.get h2 h3 (z2.2.1 _ hmt.no) (Co a.G.X h4 (xs:=[.Lambda L.params L.body L.scope pl]) rfl (jf (kla_eval la.dflt ?_) (Ab rfl)))
 rw[la.qual]
 refine DT a.G.T fun pg loose mean mg mb T=>?_
 refine CQ (kla_nest (cn:=f.cn) (cs:=f.cs) (L:=f.L) (a:=f.fa) (ccd:=f.cd) (cl:=f.cl) (g:=fun o'=>put Pt o' led) r0.F r0.N T la.hd la.cd (LZ (r0.ex _ hP) r0.nd) (LU tb) htb la.cls fun qa c' oc vs tk ctv h' tk' F1 N1 hoc hvs hlt hlt'=>fun htk=>?_)
 have etb:((tabOf tb).toArray++ #[rawInt pl.line,rawInt pl.col,Value.ref c']:Array Value)=(tabOf (tb++[(pl,c')])).toArray:=by rw[Hh];exact List.append_toArray ..
 rw[etb]at N1
 refine jI ?_
 have N3:News f.h₀ f.L h' (put Pt (tabObj (tabOf (tb++[(pl,c')])).toArray) led):=fun p hp=>N1 p (.tail _ (.tail _ hp))
 have r1:=r0.aZ hP F1 N3
 have keys:∀p∈put Pt (tabObj (tabOf (tb++[(pl,c')])).toArray) led,p.1 < c':=fun p hp=>by
  have:p.1∈led.map (·.1):=by rw[←Bj Pt (tabObj (tabOf (tb++[(pl,c')])).toArray)];exact zA.mpr ⟨p,hp,rfl⟩
  refine Aa (zA.mp this) fun w hw e=>?_
  rw[←e];exact hlt w hw
 refine Hm (r1.frozen F1 (fun p hp=>N1 p (.tail _ hp)) keys) fun R2 le2 r2 zc _ _=>?_
 refine Hm (r2.frozen F1 N1 (fun p hp=>by
  rcases zI.mp hp with e |hp
  ·rw[e];exact hlt'
  ·exact Nat.lt_trans (keys p hp) hlt')) fun R3 le3 r3 zq _ _=>?_
 have le13:=le2.trans le3
 have hsd3:R3.sd=none:=le13.sd.trans hsd
 have rx3:Ap c f R3 σ h':=⟨_,_,r3⟩
 clear r3 r2 r1
 refine Av rx3 fun m3 led3 r3=>?_
 have hP3:(Pt,tabObj (tabOf (tb++[(pl,c')])).toArray)∈R3.ex:=by rw[le13.ex];exact Bf hP
 have HJ:Rec.HJ ⟨R.ρ,R.ω,R.zs,put Pt (tabObj (tabOf (tb++[(pl,c')])).toArray) R.ex,R.sd⟩ R3:=le13.v
 have hV4:c.V R3 (.obj t) (.ref x):=V.l8 HJ (show c.V _ (.obj t) (.ref x)from hV)
 refine Aq (VR.UL hV4) fun x4 dx4 e4 zx hdx=>?_
 cases e4
 refine Hn (r3.Ao hfl) fun dx5 es5 n5 c1 c2 c3=>?_
 have e5:dx4=dx5:=ze (hdx.symm.trans c1)
 subst e5
 have a4:At c S (d+1) f A X R3 σ {s with heap:=h',toks:=tk'}:=⟨a.G,a.NM,a.names,a.cs,by rw[hsd3];exact hm.symm,fun h=>(by rw[hm]at h;cases h),⟨_,_,r3⟩⟩
 refine⟨a4.In,?_⟩
 have cin:=Wu (A:=A) (σ:=σ) (s:={s with heap:=h',toks:=tk'}) a.G (.refl A) r3 hfl zx hdx c2 c3 (vs:=[]) (rvs:=[]) .nil hmD
 have cellM:∀b∈clos.map (·.2),b∈f.cl.map (·.2):=fun b hb=>zg (la.sub b hb) fun n hn=>lookup_mem hn
 have hps:∀p∈led3.filter (fun p=>(clos.map (·.2)).contains p.1),p∈led3∧p.1∈clos.map (·.2):=fun p hp=>by
  have hp:=z9.mp hp
  exact⟨hp.1,by have:=hp.2;rw[jk]at this;exact zX this⟩
 have hx:∀p∈led3.filter (fun p=>(clos.map (·.2)).contains p.1),p∈(R3.call led3 (some (x,dx4))).ex:=fun p hp=>by
  have hp:=hps p hp
  have hcl:=cellM _ hp.2
  refine z9.mpr ⟨hp.1,EJ.mpr ⟨fun hb=>E3 r3.D1 hb hcl rfl,fun e=>?_,fun hb=>?_⟩⟩
  ·have e:dx4=p.1:=ze e
   exact E3 r3.D1 (Az hdx) hcl e
  ·refine Aa (zA.mp hb) fun w hw e=>?_
   exact r3.D3 p.1 (.inr (.inr (.inl hcl))) w (zk _ hw) e
 have hoc':∀p∈led3.filter (fun p=>(clos.map (·.2)).contains p.1),∃v,p.2.data=.cell v:=fun p hp=>by
  have hp:=hps p hp
  refine zg (la.sub _ hp.2) fun n hn=>AH (r3.clo n p.1 hn) fun o v o1 o2=>⟨v,?_⟩
  rw[ES r3.nd (a:=p.1) (o:=p.2) hp.1 o1];exact o2
 refine Aa la.gl fun a6 gl6 fd6=>?_
 have zf:Mb c ((R3.call led3 (some (x,dx4))).fixC (led3.filter fun p=>(clos.map (·.2)).contains p.1)) 6 xs qa:=
  ⟨L,hL,_,c',ctv,oc,vs,tk,clos,a6,zi _ zq,zi _ (le3.zs _ zc),hoc,hvs,
   P9 (R':=(R3.call led3 (some (x,dx4))).fixC (led3.filter fun p=>(clos.map (·.2)).contains p.1)) r3 (fun p hp=>zi _ hp) ⟨[],(zE _).symm⟩ (fun p hp hm=>zk _ (z9.mpr ⟨hp,by rw[jk];exact ja hm⟩)) hargs la.look,gl6,fd6⟩
 have cellF:∀{σ':St} {fs':List (Option Val)} {R':Rec} {f':Fx} {m':Str→Option Value} {led':List (Addr×Obj)},(R3.call led3 (some (x,dx4))).Lm R'→RelL c f' R' σ' m' led'→fz σ'.own σ'.self=some fs'→RelL c f (BV R3 R' led') (σ.BA (σ'.heap.set t (.Ao fs'))) m3 led'∧R3.le (BV R3 R' led'):=fun{σ' fs' R' f' m' led'} le r₁ hfz'=>by
  have hsd':R'.sd=some (x,dx4):=le.sd
  refine Bx (r₁.self x dx4 hsd') fun _ _ h=>AH h fun es' n' w1 w2=>?_
  exact r3.toRelL.leave (sd:=some (x,dx4)) (fsl:=σ.self) (hp:=σ'.heap.set t (.Ao fs')) le r₁ (fun x' dx' e=>by cases e;exact .inr ⟨hsd3,Az hdx⟩) (fun h=>absurd hsd3 h) (fun x dx es n e=>by rw[hsd3]at e;cases e) (fun _=>r3.self0 hsd3) (jK ..)
   (fun i ce hi ho=>by
    by_cases e:t=i
    ·subst e
     have hlt:t < σ'.heap.length:=by
      have:=(zn.mp hi).1
      rwa[jK]at this
     rw[jv hlt]at hi
     cases hi
     refine .inr ⟨dx4,_,?_,w1,⟨es',n',rfl,CO r₁ hfz' w2⟩,hsd3⟩
     refine zg le.ρ fun t ht=>?_
     rw[ht]
     show(R3.ρ++t)[_]? =some dx4
     rw[zJ (zn.mp hdx).1];exact hdx
    ·rw[jQ e]at hi
     exact .inl hi)
 have smm:∀{s':Shared},An {s with heap:=h',toks:=tk'} s'→An s s':=fun sm=>⟨sm.gens,sm.drawn,sm.os,zp htk sm.tk⟩
 refine Jg (Qr H hC hC' hD hf hmD hb hcall cin hx hoc' zf (fun r' fs' h'' rv s' f' R' σ' m' led' lv hk sm le r₁ hlook hlr' hfz' hheap F N=>?_) (fun e T B a0 outer fs' h'' s' f' R' σ' m' led' hX sm le r₁ hfz' hheap hT hA fl hB hl hn up ns=>?_))
 ·subst hheap
  refine Aw (cellF le.x r₁.toRelL hfz') fun rn len=>?_
  exact hq r' fs' σ'.heap _ s' c' rv hk (smm sm) ⟨m3,led',rn.at_ F N⟩ (len.sd.trans hsd3) (len.ex▸hP3) (Fq r₁.toRelL hlook hlr')
 ·subst hheap
  refine Aw (cellF le r₁ hfz') fun rn len=>?_
  exact hxq e T B a0 outer fs' σ'.heap _ m3 led' c' s' hX (smm sm) (len.sd.trans hsd3) hT hA fl hB hl hn up ns rn (len.ex▸hP3)
end
end
section
set_option maxHeartbeats 4000000
mutual
noncomputable def Pa:Val→Bool
 | .exc _=>false
 | .seq _ xs=>Ee xs
 |_=>true
noncomputable def Ee:List Val→Bool
 |[]=>true
 |x::r=>cond (Pa x) (Ee r) false
end
noncomputable def Lv:List (Option Val)→Bool
 |[]=>true
 |none::r=>Lv r
 |some x::r=>cond (Pa x) (Lv r) false
noncomputable def DK:List Cell→Bool
 |[]=>true
 | .Ao fs::r=>cond (Lv fs) (DK r) false
 | .Ak xs::r=>cond (Ee xs) (DK r) false
 | .taken::r=>DK r
noncomputable def F9:List (Option LV)→Bool
 |[]=>true
 |none::r=>F9 r
 |some (.v x)::r=>cond (Pa x) (F9 r) false
 |some _::_=>false
theorem GU:∀{l:List (Option LV)} {k:Nat} {v:LV},F9 l=true→Ax l k=some v→∃x,v=.v x∧Pa x=true
 |none::r,0,_,_,h=>nz h
 |none::r,k+1,_,e,h=>GU (l:=r) e h
 |some (.v x)::r,0,_,e,h=>by cases h;exact⟨x,rfl,(condT e).1⟩
 |some (.v x)::r,k+1,_,e,h=>GU (l:=r) (condT e).2 h
theorem GT:∀{l:List (Option Val)} {k:Nat} {v:LV},Lv l=true→Ax (B1 l) k=some v→∃x,v=.v x∧Pa x=true
 |[],k,_,_,h=>by induction k using zz <;>exact nz h
 |none::r,0,_,_,h=>nz h
 |none::r,k+1,_,e,h=>GT (l:=r) e h
 |some x::r,0,_,e,h=>by cases h;exact⟨x,rfl,(condT e).1⟩
 |some x::r,k+1,_,e,h=>GT (l:=r) (condT e).2 h
theorem EX:∀{l:List Cell} {k:Nat} {ce:Cell},DK l=true→l[k]? =some ce→match ce with | .Ao fs=>Lv fs=true | .Ak xs=>Ee xs=true | .taken=>True
 |[],_,_,_,h=>nz (js.symm.trans h)
 | .Ao fs::r,0,_,e,h=>by cases h;exact(condT e).1
 | .Ao fs::r,k+1,_,e,h=>EX (l:=r) (condT e).2 h
 | .Ak fs::r,0,_,e,h=>by cases h;exact(condT e).1
 | .Ak fs::r,k+1,_,e,h=>EX (l:=r) (condT e).2 h
 | .taken::r,0,_,e,h=>by cases h;trivial
 | .taken::r,k+1,_,e,h=>EX (l:=r) e h
theorem RC:¬Hq "re.Match":=fun h=>by
 have e1:=h.E
 have e2:isSubtype (.type "re.Match") (.type "Exception")=pure false:=by rw[zN];kernel_rfl
 have e:=e1.symm.trans e2
 exact nomatch e
section
variable {c:Cx}{f:Fx}{R R':Rec}{σ σ':St}{h:Heap}{m:Str→Option Value}{led:List (Addr×Obj)}{e:Addr}
noncomputable def Rec.H0(R:Rec)(e:Addr):Rec:=⟨R.ρ,R.ω,R.zs.filter (fun q=> !([e].contains q.1)),R.ex,R.sd⟩
theorem VR.Nw{PC:Addr}{Z Z':Addr→Obj→Prop}{ρ:List Addr}(hz:∀a o,(∀oe,CR oe→o≠oe)→Z a o→Z' a o){x:Val}{v:Value}(h:VR PC Z ρ x v):Pa x=true→VR PC Z' ρ x v:=
 VR.rec (motive_1:=fun x v _=>Pa x=true→VR PC Z' ρ x v) (motive_2:=fun xs vs _=>Ee xs=true→AU PC Z' ρ xs vs) (fun _=>.none) (fun b _=>.bool b) (fun i t _=>.int i t) (fun x t h _=>.str x t h)
  (fun h hl _ ih q=>.seq (let⟨o,x,y,z⟩:=h;⟨o,hz _ _ (fun oe ho e=>by induction ho using CR.casesOn with |mk _ _ _ _ hd _=>rw[e,hd]at z;cases z) x,y,z⟩) hl (ih q))
  (fun h hd _=>.obj (hz _ _ (fun oe ho e=>by induction ho using CR.casesOn with |mk _ _ _ hc _ _=>rw[←e]at hc;cases hc) h) hd)
  (fun h ht _=>.mt (hz _ _ (fun oe ho e=>by induction ho using CR.casesOn with |mk X _ hT hc _ _=>rw[←e]at hc;cases hc;exact RC hT) h) (hz _ _ (fun oe ho e=>by induction ho using CR.casesOn with |mk _ _ _ _ hd _=>rw[←e]at hd;cases hd) ht)) (fun hd _=>.hl hd)
  (fun _ _ q=>ft q) (fun a _=>.ad a) (fun _=>.nil) (fun _ _ a b q=>.cons (a (condT q).1) (b (condT q).2)) h
theorem AU.Nw{PC:Addr}{Z Z':Addr→Obj→Prop}{ρ:List Addr}(hz:∀a o,(∀oe,CR oe→o≠oe)→Z a o→Z' a o){xs:List Val}:∀{vs:List Value},AU PC Z ρ xs vs→Ee xs=true→AU PC Z' ρ xs vs:=by
 induction xs with
 |nil=>intro vs h _;rw[AU.C7 h];exact .nil
 |cons x xs ih=>intro vs h q;refine Aq (AU.A9 h) fun v ws e a b=>?_;rw[e];exact .cons (a.Nw hz (condT q).1) (ih b (condT q).2)
theorem RelL.H0(r:RelL c f R σ m led){oe:Obj}(he:(e,oe)∈R.zs)(ho:CR oe)(hsd:R.sd=none)(hl:F9 σ.loc=true)(hc:DK σ.heap=true)(hown:σ.own=[]):RelL c f (R.H0 e) σ m (led.filter fun q=> !([e].contains q.1)):=by
 have hz:∀a o,(∀oe,CR oe→o≠oe)→c.Z R a o→c.Z (R.H0 e) a o:=fun a o hn z=>z.imp id fun z=>Em.mpr ⟨z,fun hm=>by
  have hm:=zG.mp hm
  have hm:a=e:=hm
  subst hm
  exact hn oe ho (ES r.nd (r.zs _ z) (r.zs _ he))⟩
 have keep:∀{p:Addr×Obj},p∈led→p.1≠e→p∈led.filter fun q=> !([e].contains q.1):=fun h1 h2=>Em.mpr ⟨h1,fun hm=>h2 (zG.mp hm)⟩
 have mutN:∀{a},F6 f R a→a≠e:=fun ha e'=>r.D3 _ ha _ (zk _ he) e'.symm
 have up:∀v rv,(∃x,v=LV.v x∧Pa x=true)→LR c R v rv→LR c (R.H0 e) v rv:=fun v rv h y=>by
  refine Aa h fun x e' q=>?_
  subst e'
  cases y with |v y=>exact .v (y.Nw hz q)
 refine{nd:=(List.Sublist.map _ List.filter_sublist).nodup r.nd,slots:=fun k n v hk hv=>BF (fun a o a1 a2=>keep a2 (mutN (.inr (.inr (.inl (lookup_mem a1)))))) (fun _ y=>up _ _ (GU hl hv) y) (r.slots k n v hk hv),clo:=fun n a ha=>?_,self:=fun x dx hs=>?_,self0:=r.self0,ml:=fun a ha=>?_,hlen:=r.hlen,cells:=fun j ce hj ho=>?_,oln:=r.oln,owns:=fun k xs hk=>?_,zs:=fun p hp=>?_,ex:=fun p hp=>keep (r.ex p hp) fun e'=>r.D4 _ he p hp e'.symm,D1:=r.D1,D2:=r.D2,D3:=fun a ha p hp=>?_,D4:=fun p hp q hq=>r.D4 p (Em.mp hp).1 q hq,B:=r.B}
 ·refine AH (r.clo n a ha) fun o v a1 a2=>?_
  exact⟨o,v,keep a1 (mutN (.inr (.inr (.inl (lookup_mem ha))))),a2⟩
 ·have hs:R.sd=some (x,dx):=hs
  rw[hsd]at hs;cases hs
 ·refine Aa (zA.mp (r.ml a ha)) fun p hp e'=>?_
  exact zA.mpr ⟨p,keep hp (by rw[e'];exact mutN ha),e'⟩
 ·refine Aq (r.cells j ce hj ho) fun a o a1 a2 a3=>⟨a,o,a1,keep a2 (mutN (.inl (Az a1))),?_⟩
  have hq:=EX hc hj
  induction ce using Cell.casesOn with
  |Ao fs=>
   refine AH a3 fun es n g1 g2=>⟨es,n,g1,?_⟩
   refine HO g2 fun b1 b2 b3 b4=>⟨fun k nm hk=>?_,b2,b3,b4⟩
   have:=b1 k nm hk
   revert this
   induction q:Ax (B1 fs) k using zh with
   |none=>exact id
   |some v=>rintro⟨rv,g3,g4⟩;exact⟨rv,g3,up _ _ (GT hq q) g4⟩
  |Ak xs=>exact Aq a3 fun vs n g1 g2 g3=>⟨vs,n,g1,g2,AU.Nw hz g3 hq⟩
  |taken=>trivial
 ·rw[hown]at hk
  induction k using zz <;>exact nz hk
 ·have hp:=Em.mp hp
  exact keep (r.zs p hp.1) fun e'=>hp.2 (e'▸ .head _)
 ·rcases zt.mp hp with hp |hp
  ·exact r.D3 a ha p (zk _ (Em.mp hp).1)
  ·exact r.D3 a ha p (zi _ hp)
theorem RelL.Zr(r:RelL c f R σ m led){k:Nat}{v v':LV}(hv:Ax σ.loc k=some v)(h:∀rv,LR c R v rv→LR c R v' rv):RelL c f R (σ.BB k v') m led:=
 {r with slots:=fun j n u hj hu=>(Fd hu).elim (fun e=>by rw[e.1]at hj;rw[e.2];exact BF (fun _ _ _ x=>x) (fun rv y=>h rv y) (r.slots k n v hj hv)) fun e=>r.slots j n u hj e.2,self0:=r.self0}
theorem RelL.other(r:RelL c f R σ m led){m':Str→Option Value}{n:Str}(hn:n∉f.names)(hsd:R.sd=none)(hm:∀y,y≠n→m' y=m y):RelL c f R σ m' led:=by
 refine{r with slots:=fun j n' u hj hu=>?_,self:=fun x dx hs=>by rw[hsd]at hs;cases hs}
 have h:=r.slots j n' u hj hu
 have e:m' n'=m n':=hm n' fun e=>hn (e▸zQ hj)
 revert h
 induction f.cs.names.lookup n' using zh with
 |none=>exact id
 |some kd=>cases kd <;>first |exact id |(rintro⟨rv,h1,h2⟩;exact⟨rv,e.trans h1,h2⟩)
end
end
section
set_option maxHeartbeats 4000000
section
variable {c:Cx}{C C':Cfg}{S:Sx}{d:Nat}{f:Fx}{A:Around}{X:AN→St→Prop}{R R':Rec}{σ σ':St}{s s':Shared}{m:Str→Option Value}{led:List (Addr×Obj)}{Ev:Value→Shared→Prop}
theorem At.lS(a:At c S d f A X R σ s)(hm:S.Af=false):R.sd=none:=by
 have:=a.Af
 rw[hm]at this
 induction q:R.sd using zh with
 |none=>rfl
 |some _=>rw[q]at this;cases this
theorem At.re(a:At c S d f A X R σ s)(hm:S.Af=false){R':Rec}{σ':St}{s':Shared}(hsd:R'.sd=none)(r:Ap c f R' σ' s'.heap):At c S d f A X R' σ' s':=
 ⟨a.G,a.NM,a.names,a.cs,by rw[hsd];exact hm.symm,fun h=>(by rw[hm]at h;cases h),r⟩
theorem At.freeze(a:At c S d f A X R σ s)(hm:S.Af=false){loc':List (Option Val)}(hl:fz σ.own σ.loc=some loc'):∃R',At c S d f A X R' ⟨B1 loc',[],[],σ.heap⟩ s∧R'.ex=R.ex:=by
 refine Av a.r fun m led r=>?_
 have hsd:=a.lS hm
 exact⟨R.ac led,a.re hm hsd ⟨m,led,r.freeze hsd hl⟩,rfl⟩
structure KC(c:Cx)(C C':Cfg)(P:Kx)(d:Nat)(Ds:List (Dd×Addr×Value))(kf:Nat)(D:Dd)(ad:Addr)(cdv:Value)(fn:Fn):Prop where
 H:Dz c P Ds
 hC:C.call=A8 P (d+1)
 hC':C'=⟨P.rx,A8 P d,P.init,P.nf⟩
 hD:Ds[kf]? =some (D,ad,cdv)
 hf:P.fns[kf]? =some fn
 hm:D.Af=true
 hb:IM c C' d D.body D.qual D.scope ad cdv D.names D.Af fn.body
variable {P:Kx}{Ds:List (Dd×Addr×Value)}{kf:Nat}{D:Dd}{ad:Addr}{cdv:Value}{fn:Fn}
theorem SN(I:KC c C C' P d Ds kf D ad cdv fn)(a:At c S (d+1) f A X R σ s)(hm:S.Af=false){L:Cv}(hL:L∈c.lams)
  {n nj nf:Str} {j t i:Nat} {q q' q'' pl p p':Pos} (hj:S.names[j]? =some nj) (hi:S.names[i]? =some nf) (hfree:S.cs.names.lookup nf≠some .free) (hmt:PP c n kf) (hl1:(q.endLine==p.line)=true) {Pt cc:Addr} {clos:List (Str×Addr)} (la:KB c f L Pt cc clos)
  {fs:List (Option Val)} {xs:List Val} (hlj:Ax σ.loc j=some (.v (.obj t))) (hfl:σ.heap[t]? =some (Ag.Cell.Ao fs)) (hargs:L9 f.names σ.loc L.args xs) {tb:List (Pos×Addr)}
  (hP:(Pt,tabObj (tabOf tb).toArray)∈R.ex) (htb:codeAmong pl (tabOf tb)=none) {K:Val→List (Option Val)→List Cell→Prop} {X':AN→List (Option Val)→List Cell→Prop} (hcall:C.call (2000+kf) fs (.int (.ofNat 6)::xs) (σ.heap.set t .taken) K X')
  {Q:Flow→Shared→Prop} (hq:∀r fs' h' R' s' c',K r fs' h'→An s s'→At c S (d+1) f A X R' ((σ.BA (h'.set t (.Ao fs'))).BB i (.v r)) s'→(Pt,tabObj (tabOf (tb++[(pl,c')])).toArray)∈R'.ex→Q .next s')
  (hxq:∀e T B a0 outer fs' h' R' m' led' c' s',X' (.user e) fs' h'→An s s'→R'.sd=none→Hq T→A.frames=some (f.env::outer)→Heap.FlyingW B (f.env::outer) e (.type T) a0 s'.heap→(∀b o,f.h₀.get? b=some o→b∉outer.filterMap (·.frame)→B.get? b=some o)→
   (∀p∈led',p.1≠e→B.get? p.1=some p.2)→(∀p∈led',f.h₀.get? p.1=none)→f.h₀.UpToSlots s'.heap→s'.heap.Ns f.L m'→RelL c f R' (σ.BA (h'.set t (.Ao fs'))) m' led'→(Pt,tabObj (tabOf (tb++[(pl,c')])).toArray)∈R'.ex→Ev (.ref e) s'):
  wpAny (model c.prog c.w) A (exec (.Assign [.Name nf q''] (.Call (.Attribute (.Name nj q') n q) [.Lambda L.params L.body L.scope pl] [] p) p') f.env) Q Ev s:=by
 refine wpAny_Assign_Name (Uq I.H I.hC I.hC' I.hD I.hf I.hm I.hb a hm hL hj hmt hl1 la hlj hfl hargs hP htb hcall (fun r fs' h' R' s' c' rv hk sm rx hsd hp hv=>?_) hxq) (CA rfl)
 refine Av rx fun m led r0=>?_
 exact Br a.G a.NM r0 (by rw[a.names];exact hi) (by rw[a.cs];exact hfree) (.v hv) fun s'' sm'' r''=>hq r fs' h' R' s'' c' hk (sm.trans sm'') (a.re hm hsd r'') hp
theorem ZC(I:KC c C C' P d Ds kf D ad cdv fn)(a:At c S (d+1) f A X R σ s)(hm:S.Af=false){L:Cv}(hL:L∈c.lams)
  {n nj nf:Str} {j t i:Nat} {q q' q'' pl p p':Pos} (hj:S.names[j]? =some nj) (hi:S.names[i]? =some nf) (hfree:S.cs.names.lookup nf≠some .free) (hmt:PP c n kf) (hl1:(q.endLine==p.line)=true) {Pt cc:Addr} {clos:List (Str×Addr)} (la:KB c f L Pt cc clos)
  {fs:List (Option Val)} {xs:List Val} (hlj:Ax σ.loc j=some (.v (.obj t))) (hfl:σ.heap[t]? =some (Ag.Cell.Ao fs)) (hargs:L9 f.names σ.loc L.args xs) {tb:List (Pos×Addr)}
  (hP:(Pt,tabObj (tabOf tb).toArray)∈R.ex) (htb:codeAmong pl (tabOf tb)=none) {K:Val→List (Option Val)→List Cell→Prop} {X':AN→List (Option Val)→List Cell→Prop} (hcall:C.call (2000+kf) fs (.int (.ofNat 6)::xs) (σ.heap.set t .taken) K X')
  (hout:A.frames=some [f.env]) {nc met:Str} {k ie e₀:Nat} {p1 p2 p3 p4 p5 p6:Pos} (hk:S.names[k]? =some nc) (hkc:S.cs.names.lookup nc=some .local) (hmet:S.cs.names.lookup met=some .local) (hmn:met∉S.names) (hmd:(met==("__debug__":Str))=false)
  {ner:Str} (hien:S.names[ie]? =some ner) (hie:Ax σ.loc ie=some (.v (.exc e₀))) (hown:σ.own=[]) (bE:Ma c S "Exception" (.type "Exception")) (hX':∀e fs' h',X' (.user e) fs' h'→e=e₀∧F9 (CE σ.loc ie (.v (.ad e₀)))=true∧DK (h'.set t (.Ao fs'))=true)
  {Q:Flow→Shared→Prop} (hq:∀r fs' h' R' s' c',K r fs' h'→An s s'→At c S (d+1) f A X R' ((σ.BA (h'.set t (.Ao fs'))).BB i (.v r)) s'→(Pt,tabObj (tabOf (tb++[(pl,c')])).toArray)∈R'.ex→Q .next s')
  (hxq:∀fs' h' R' s' c',X' (.user e₀) fs' h'→An s s'→At c S (d+1) f A X R' (((σ.BA (h'.set t (.Ao fs'))).BB ie (.v (.ad e₀))).BB k (.v (.ad e₀))) s'→(Pt,tabObj (tabOf (tb++[(pl,c')])).toArray)∈R'.ex→Q .next s'):
  wpAny (model c.prog c.w) A (exec (.Try [.Assign [.Name nf q''] (.Call (.Attribute (.Name nj q') n q) [.Lambda L.params L.body L.scope pl] [] p) p'] [.ExceptHandler (some (.Name "Exception" p1)) (some met) [.Assign [.Name nc p2] (.Name met p3) p4] p5] [] [] p6) f.env) Q Ev s:=by
 refine wpAny_Try_except (wpAny_execs_cons (SN I a hm hL hj hi hfree hmt hl1 la hlj hfl hargs hP htb hcall (fun r fs' h' R' s' c' hk sm a' hp=>?_) ?_))
 ·exact wpAny_execs_nil (wpAny_execs_nil (hq r fs' h' R' s' c' hk sm a' hp))
 intro e T B a0 outer fs' h' R' m' led' c' s' hX sm hsd hT hA fl hB hl hn up ns r hp
 refine Bx (hX' e fs' h' hX) fun e1 g1 g2=>?_
 subst e1
 have ho:outer=[]:=by
  have:=hA.symm.trans hout
  injection this with this
  injection this
 subst ho
 have hB':f.h₀.StaysIn B:=fun b o hb=>hB b o hb List.not_mem_nil
 refine Av a.r fun m0 led0 r00=>?_
 have above:=r00.F.above
 have F_:∀{h₅:Heap},s'.heap.UpToSlots h₅→B.StaysIn h₅→Fr f.h₀ f.L h₅ m':=fun sl st=>⟨sl.ns ns,fun b o hb=>st b o (hB' b o hb),above⟩
 refine wpAny_looks_onW hA rfl fl fun h₄ hheld₄ hsm₄=>?_
 refine wpAny_landsW (s:={s' with heap:=h₄}) hheld₄ fun h₅ hfl₅ hsm₅=>?_
 refine DT a.G.T fun pg loose mean mg mb Tp=>?_
 refine wpAny_handleBy_builtin_as (X:=T) (T:="Exception") (b:=true) (by rw[zN];kernel_rfl) (by rw[zN];kernel_rfl) hT.E (nameX_B (v:=.type "Exception") (F_ (hsm₄.trans hsm₅) hfl₅.1) a.G.X (topRead_of Tp) bE.gl bE.bi bE.nn ⟨rfl,hfl₅.there,?_⟩ a.G.kind (by show f.cs.names.lookup _=_;rw[a.cs];exact bE.k) bE.db)
 rw[z5 rfl]
 refine lands_againW (s:={s' with heap:=h₅}) hfl₅ fun h₆ hfl₆ hsm₆=>?_
 have F₆:=F_ ((hsm₄.trans hsm₅).trans hsm₆) hfl₆.1
 have hv:∃rv,LR c R' (.v (.exc e)) rv:=by
  have hs:=r.slots ie ner (.v (.exc e)) (by rw[a.names];exact hien) hie
  revert hs
  induction f.cs.names.lookup ner using zh with
  |none=>exact fun h=>h.elim
  |some kd=>cases kd <;>first |exact fun h=>Aa h fun rv _ b=>⟨rv,b⟩ |exact fun h=>AD h fun _ _ rv _ _ _ b=>⟨rv,b⟩
 refine zg hv fun rv hv=>Aw (AP (x:=.exc e) rfl hv).inv fun _ hz=>Aa hz fun oe hz hoe=>?_
 have hz:(e,oe)∈R'.zs:=hz.elim (fun hz=>by
  induction hoe using CR.casesOn with
  |mk _ vs _ _ hd _=>exact absurd hd (hz.2 vs)) id
 have r₁:=(r.Zr (k:=ie) (v':=.v (.ad e)) hie fun rv y=>by
  have e':rv=.ref e:=(AP (x:=.exc e) rfl y).inv.1
  rw[e'];exact .v (.ad e)).H0 hz hoe hsd g1 g2 hown
 have hLB:B.get? f.L=none:=by
  obtain⟨_,⟨L',_,hf,hn',_⟩,_⟩:=fl.2.2.1
  have e':f.L=L':=ze hf
  rw[e'];exact hn'
 have N₆:News f.h₀ f.L h₆ (led'.filter fun q=> !([e].contains q.1)):=fun w hw=>by
  have hw:=Em.mp hw
  have hb:=hl w hw.1 fun e'=>hw.2 (e'▸ .head _)
  exact⟨hfl₆.1 _ _ hb,fun e'=>(by rw[e',hLB]at hb;exact nomatch hb),hn w hw.1⟩
 refine storeX_L F₆ N₆ (fun h₇ F₇ N₇=>?_) a.G.kind (by show f.cs.names.lookup _=_;rw[a.cs];exact hmet)
 have hmn':met∉f.names:=by rw[a.names];exact hmn
 have hkn:f.names[k]? =some nc:=by rw[a.names];exact hk
 have hkc':f.cs.names.lookup nc=some .local:=by rw[a.cs];exact hkc
 have r₇:=(r₁.other (m':=fun y=>if y=met then some (.ref e)else m' y) hmn' hsd fun y hy=>zR hy).at_ F₇ N₇
 refine wpAny_execs_cons (wpAny_Assign_Name (nameX_L F₇ (z5 rfl) ?_ a.G.kind (by show f.cs.names.lookup _=_;rw[a.cs];exact hmet) hmd) (CA rfl))
 refine storeX_L F₇ N₇ (fun h₈ F₈ N₈=>?_) a.G.kind hkc'
 refine wpAny_execs_nil ?_
 have r₈:=r₇.WL (k:=k) (v:=.v (.ad e)) hkn a.NM.nd (fun e'=>a.NM.self (e'▸zQ hkn)) hkc' (.v (.ad e)) F₈ N₈
 refine wpAny_nameGoes_keeps (by show f.cs.names.lookup _=_;rw[a.cs];exact hmet) F₈.ns (by show(f.cs.kind==.class || (f.cs.kind==.module && f.L !=mainGlobals))=false;rw[a.G.kind];rfl) fun h₉ v ns₉ sb₉=>?_
 have F₉:Fr f.h₀ f.L h₉ _:=⟨ns₉,fun b o hb=>(sb₉.2 b fun e'=>(by rw[e',kts_self F₈]at hb;exact nomatch hb)).trans (F₈.keep b o hb),above⟩
 have N₉:News f.h₀ f.L h₉ (led'.filter fun q=> !([e].contains q.1)):=fun w hw=>⟨(sb₉.2 _ (N₈ w hw).2.1).trans (N₈ w hw).1,(N₈ w hw).2⟩
 have r₉:=(r₈.toRelL.other hmn' hsd fun y hy=>zR hy).at_ F₉ N₉
 exact hxq fs' h' (R'.H0 e) _ c' hX (sm.trans (Al (zp (zP _) (zp (zP _) (zP _))))) (a.re hm hsd ⟨_,_,r₉⟩) hp
end
end
section
section
variable {c:Cx}{S:Sx}
theorem VE{w:Val}(h:Cj w=true):∃t,w=.str t:=by
 induction w using Val.casesOn with
 |str t=>exact⟨t,rfl⟩
 |_=>exact nomatch h
theorem Wv{n:Str}{id:String}{sem:Val→List Val→Option Val}(slot:Slot "str" n id)(ty:typeOf (.builtin id)=pure (.type "method_descriptor"))
  (op:∀{f:Fx} {A:Around} {R:Rec} {σ:St} {s:Shared} {t:Txt} {tk:Tok} {ws:List Val} {vs:List Value} {v:Val},A.handled=none→Ap c f R σ s.heap→t.length≤AJ→c.Vs R ws vs→sem (.str t) ws=some v→AV c f A R σ s (call (.builtin id) (.str ⟨t.toArray⟩ tk::vs)) v):
  B6 c S n Cj sem:=by
 intro d f A X R σ s a apos pos o xs Ev Q hb hp hl hl1 h
 refine AY hb hp hl hl1 (zW h (fun ov s₁ h₁ pl=>?_) fun _ _ x=>x)
 refine AD h₁ ?_;clear h₁;intro R₁ σ₁ w a₁ hw hat h₁
 refine zg (VE hat) fun t ew=>?_
 rw[ew]at hw h₁
 refine Aa hw.inv fun tk hlen er=>?_
 rw[er]
 refine GM.of _ (Jw _ _ _) slot ty (fun _ h=>nomatch h) ?_
 have fin:∀vs s₂,(∃R₂ σ₂ ws,R₁.le R₂∧c.Vs R₂ ws vs∧After c S d f A X (sem (.str t) ws) Q R₂ σ₂ s₂)→wpAny (model c.prog c.w) A (call (.builtin id) ([.str ⟨t.toArray⟩ tk]++vs)) Q Ev s₂:=fun vs s₂ h=>
  Hn h fun R₂ σ₂ ws le hvs h=>BZ h fun v hv a₂ hq=>op a₂.G.hh a₂.r hlen hvs hv Ev Q fun R' rv s' le' sm r' hv'=>hq R' rv s' le' sm r' hv'
 induction xs using zo with
 |nil=>exact fun Γ p hΓ=>(PyProof.Rows.callWith_method0 (fin [] s₁ (h₁ Γ p hΓ))) Γ p hΓ
 |cons x xs=>
  have hp':=zH.mp (jP.symm.trans hp)
  exact j8 (zW h₁ fin fun _ _ x=>x) (Ab hp'.1) (AR hp'.2)
theorem Yp{F:Val→Val→Val→Option Val}{x:Val}{ws:List Val}{v:Val}(h:(match x,ws with |x,[y,z]=>F x y z |_,_=>none)=some v):∃y z,ws=[y,z]∧F x y z=some v:=by
 induction ws using zo with
 |nil=>exact nz h
 |cons y ws=>induction ws using zo with
  |nil=>exact nz h
  |cons z ws=>induction ws using zo with
   |nil=>exact⟨y,z,rfl,h⟩
   |cons _ _=>exact nz h
theorem Yq{F:Val→Val→Val→Val→Option Val}{x:Val}{ws:List Val}{v:Val}(h:(match x,ws with |x,[y,z,w]=>F x y z w |_,_=>none)=some v):∃y z w,ws=[y,z,w]∧F x y z w=some v:=by
 induction ws using zo with
 |nil=>exact nz h
 |cons y ws=>induction ws using zo with
  |nil=>exact nz h
  |cons z ws=>induction ws using zo with
   |nil=>exact nz h
   |cons w ws=>induction ws using zo with
    |nil=>exact⟨y,z,w,rfl,h⟩
    |cons _ _=>exact nz h
theorem M9{F:Val→Option Val}{ws:List Val}{v:Val}(h:(match ws with |[y]=>F y |_=>none)=some v):∃y,ws=[y]∧F y=some v:=by
 induction ws using zo with
 |nil=>exact nz h
 |cons y ws=>induction ws using zo with
  |nil=>exact⟨y,rfl,h⟩
  |cons _ _=>exact nz h
theorem Z5{F:Val→Val→Option Val}{ws:List Val}{v:Val}(h:(match ws with |[y,z]=>F y z |_=>none)=some v):∃y z,ws=[y,z]∧F y z=some v:=by
 induction ws using zo with
 |nil=>exact nz h
 |cons y ws=>induction ws using zo with
  |nil=>exact nz h
  |cons z ws=>induction ws using zo with
   |nil=>exact⟨y,z,rfl,h⟩
   |cons _ _=>exact nz h
theorem Z6{F:Val→Val→Val→Option Val}{ws:List Val}{v:Val}(h:(match ws with |[y,z,w]=>F y z w |_=>none)=some v):∃y z w,ws=[y,z,w]∧F y z w=some v:=by
 induction ws using zo with
 |nil=>exact nz h
 |cons y ws=>induction ws using zo with
  |nil=>exact nz h
  |cons z ws=>induction ws using zo with
   |nil=>exact nz h
   |cons w ws=>induction ws using zo with
    |nil=>exact⟨y,z,w,rfl,h⟩
    |cons _ _=>exact nz h
theorem OS{rx:Rx}{t:Txt}{y z v:Val}(h:Eu rx .find (.str t) y z=some v):∃x a,y=.str x∧z=.int (.ofNat a)∧v=.int (H5 x t a t.length):=
 Aa (bS (x:=y) h) fun x e h=>Aa (bN h) fun a e' q=>⟨x,a,e,e',(ze q).symm⟩
theorem MT{t:Txt}{y z w v:Val}(h:Pm .rfind (.str t) y z w=some v):∃x a b,y=.str x∧z=.int (.ofNat a)∧w=.int b∧v=.int (A4 x t a (clip t.length b)):=
 Aa (bS (x:=y) h) fun x e h=>Aa (bN h) fun a e' h=>Aa (bI h) fun b e2 q=>⟨x,a,b,e,e',e2,(ze q).symm⟩
theorem me{R:Rec}{x y:Val}{vs:List Value}(h:c.Vs R [x,y] vs):∃a b,vs=[a,b]∧c.V R x a∧c.V R y b:=
 Aq h.A9 fun a ws e h1 h=>Aq h.A9 fun b us e' h2 h=>⟨a,b,by rw[e,e',h.C7],h1,h2⟩
theorem mW{R:Rec}{x y z:Val}{vs:List Value}(h:c.Vs R [x,y,z] vs):∃a b d,vs=[a,b,d]∧c.V R x a∧c.V R y b∧c.V R z d:=
 Aq h.A9 fun a ws e h1 h=>Aq (me h) fun b d e' h2 h3=>⟨a,b,d,by rw[e,e'],h1,h2,h3⟩
theorem Rz{rx:Rx}:B6 c S "find" Cj (fun |x,[y,z]=>Eu rx .find x y z |_,_=>none):=by
 refine Wv (id:="str.find") PySem.F.slot_str_find PySem.F.type_str_find ?_
 intro f A R σ s t tk ws vs v hh r hl hv h
 refine AH (Yp (F:=Eu rx .find) (x:=.str t) (ws:=ws) (v:=v) h) fun y z ew h=>?_
 refine Aq (OS h) fun x a ey ez ev=>?_
 rw[ew,ey,ez]at hv
 refine Aq (me hv) fun p q evs h1 h2=>?_
 refine Aa h1.inv fun t1 _ e1=>zg h2.inv fun t2 e2=>?_
 rw[evs,e1,e2,ev]
 exact U8 r
theorem O7:B6 c S "rfind" Cj (fun |x,[y,z,w]=>Pm .rfind x y z w |_,_=>none):=by
 refine Wv (id:="str.rfind") PySem.F.slot_str_rfind PySem.F.type_str_rfind ?_
 intro f A R σ s t tk ws vs v hh r hl hv h
 refine DS (Yq (F:=Pm .rfind) (x:=.str t) (ws:=ws) (v:=v) h) fun y z w ew h=>?_
 refine AD (MT h) fun x a b ey ez eb ev=>?_
 rw[ew,ey,ez,eb]at hv
 refine AD (mW hv) fun p q u evs h1 h2 h3=>?_
 refine Aa h1.inv fun t1 _ e1=>zg h2.inv fun t2 e2=>zg h3.inv fun t3 e3=>?_
 rw[evs,e1,e2,e3,ev]
 exact Sg r
theorem Wy{n:Str}{id:String}{sem:List Val→Option Val}(b:Ma c S n (.builtin id))
  (op:∀{f:Fx} {A:Around} {R:Rec} {σ:St} {s:Shared} {ws:List Val} {vs:List Value} {v:Val},A.handled=none→Ap c f R σ s.heap→PL c R s.heap ws vs→sem ws=some v→AV c f A R σ s (call (.builtin id) vs) v):B7 c S n sem:=by
 intro d f A X R σ s a npos pos x xs Ev Q hp h
 rw[AI]
 refine zj (IW a b ?_)
 have hp':=zH.mp (jP.symm.trans hp)
 refine PyProof.Rows.callWith_builtin1 (zW h (fun vs s₁ h₁=>?_) fun _ _ x=>x) (Ab hp'.1) (AR hp'.2)
 refine DS h₁ fun R₁ σ₁ ws hvs h=>BZ h fun v hv a₁ hq=>?_
 exact op a₁.G.hh a₁.r hvs hv Ev Q fun R' rv s' le sm r hv'=>hq R' rv s' le sm r hv'
noncomputable def av(c:Cx)(R:Rec)(h:Heap):List Val→List Value→Prop
 |[],vs=>vs=[]
 |x::xs,vs=>∃v us,vs=v::us∧VH c R h x v∧PL c R h xs us
theorem PL.inv{R:Rec}{h:Heap}{xs:List Val}{vs:List Value}(y:PL c R h xs vs):av c R h xs vs:=
 PL.casesOn (motive:=fun xs vs _=>av c R h xs vs) y rfl fun a b=>⟨_,_,rfl,a,b⟩
theorem mc{R:Rec}{h:Heap}{x:Val}{vs:List Value}(y:PL c R h [x] vs):∃v,vs=[v]∧VH c R h x v:=
 Aq y.inv fun v us e a b=>⟨v,by rw[e,(b.inv:us=[])],a⟩
theorem Yz{rx:Rx}(b:Ma c S "len" (.builtin "len")):B7 c S "len" (fun |[x]=>Cb rx .len x |_=>none):=by
 refine Wy b fun{f A R σ s ws vs v} hh r hv h=>?_
 refine Aa (M9 (F:=Cb rx .len) (ws:=ws) (v:=v) h) fun x ew h=>?_
 rw[ew]at hv
 refine Aa (mc hv) fun u eu h1=>?_
 rw[eu]
 exact d8 (rx:=rx) r h1 h
theorem ZI{rx:Rx}{x v:Val}(h:Cb rx .sum x=some v):∃xs k,x=.seq false xs∧sumOf xs=some k∧v=.int k:=
 Aa (bL h) fun xs e h=>Aa (Np h) fun k e' q=>⟨xs,k,e,e',(ze q).symm⟩
theorem YA{rx:Rx}(b:Ma c S "sum" (.builtin "sum")):B7 c S "sum" (fun |[x]=>Cb rx .sum x |_=>none):=by
 refine Wy b fun{f A R σ s ws vs v} hh r hv h=>?_
 refine Aa (M9 (F:=Cb rx .sum) (ws:=ws) (v:=v) h) fun x ew h=>?_
 refine Aq (ZI h) fun xs k ex q ev=>?_
 rw[ew,ex]at hv
 refine Aa (mc hv) fun u eu h1=>?_
 rw[eu,ev]
 exact eB hh r h1 q
end
end
end Ag
end
namespace Ag
section
open PySem PySem.W PySem.Calls PyProof.Rows Builtin Builtin.Re
theorem bM:typeLookup (.type "re.Match") "__getattribute__"=pure (some (.builtin "object.__getattribute__")):=by rw[jW,jt];kernel_rfl
theorem RA:typeLookup (.type "re.Match") "__getattr__"=pure none:=by rw[jW,jt];kernel_rfl
theorem RW:PlainAttrs "re.Match":=⟨⟨_,bM,by decide+kernel⟩,RA⟩
theorem Ro:typeLookup (.type "re.Match") "start"=pure (some (.builtin "re.Match.start")):=by rw[jW,jt];kernel_rfl
theorem MX:Slot "re.Match" "start" "re.Match.start":=
 .of (owner:="re.Match") (n:="start") Ro (by decide+kernel) (by decide+kernel) (by decide+kernel)
  (by first |exact .inl (by decide+kernel) |exact .inr (by decide+kernel)) (by rw[zN];kernel_rfl)
theorem S8:typeOf (.builtin "re.Match.start")=pure (.type "method_descriptor"):=by show builtinType _=_;rw[builtinType_eq_fast];kernel_rfl
theorem KU:entryFor table "re.Match.start"=some Builtin.«re.Match.start»:=JD (by kernel_rfl)
theorem Mh(a:Value):argsOk "re.Match.start" ⟨[a],[]⟩:=by unfold argsOk;kernel_rfl
theorem Ux:typeLookup (.type "re.Match") "span"=pure (some (.builtin "re.Match.span")):=by rw[jW,jt];kernel_rfl
theorem Pn:Slot "re.Match" "span" "re.Match.span":=
 .of (owner:="re.Match") (n:="span") Ux (by decide+kernel) (by decide+kernel) (by decide+kernel)
  (by first |exact .inl (by decide+kernel) |exact .inr (by decide+kernel)) (by rw[zN];kernel_rfl)
theorem VW:typeOf (.builtin "re.Match.span")=pure (.type "method_descriptor"):=by show builtinType _=_;rw[builtinType_eq_fast];kernel_rfl
theorem Mm:entryFor table "re.Match.span"=some Builtin.«re.Match.span»:=JD (by kernel_rfl)
theorem OC(a:Value):argsOk "re.Match.span" ⟨[a],[]⟩:=by unfold argsOk;kernel_rfl
section
variable {prog:Program}{w:World}{A:Around}
theorem Pk{a tp:Addr}{st pat:Value}{p l i s0 e0:Int}{n:Nat}{s:Shared}{Q:Value→Shared→Prop}{Ev:Value→Shared→Prop}(hx:s.heap.get? a=some (EW st pat p l i tp))(ht:s.heap.get? tp=some (seqObj true [rawInt s0,rawInt e0] n))
  (h:Q (.int s0 s.toks) {s with toks:=s.toks+1}):
  wpAny (model prog w) A (Builtin.«re.Match.start» ⟨[.ref a],[]⟩) (fun fin s'=>∃v,fin=.done (.ret v)∧Q v s') Ev s:=by
 obtain⟨hp,g,d,tk,os⟩:=s
 unfold Builtin.«re.Match.start» reOneGroup
 repeat (any_goals (first |assumption |wp_step))
 refine⟨_,rfl,?_⟩
 have e:((#[rawInt s0,rawInt e0]:Array Value).map reRawOf).getD 0 (-1)=s0:=by simp[reRawOf,rawInt]
 show Q (.int (((#[rawInt s0,rawInt e0]:Array Value).map reRawOf).getD 0 (-1)) tk) _
 rw[e]
 exact h
end
section
variable {prog:Program}{w:World}{A:Around}
theorem Sw{a tp:Addr}{st pat:Value}{p l i s0 e0:Int}{n:Nat}{s:Shared}{Q:Value→Shared→Prop}{Ev:Value→Shared→Prop}(hx:s.heap.get? a=some (EW st pat p l i tp))(ht:s.heap.get? tp=some (seqObj true [rawInt s0,rawInt e0] n))
  (h:Q (.ref s.heap.objs.size) {s with heap:=s.heap.push (seqObj true [.int s0 s.toks,.int e0 (s.toks+1)] 0),toks:=s.toks+1+1}):
  wpAny (model prog w) A (Builtin.«re.Match.span» ⟨[.ref a],[]⟩) (fun fin s'=>∃v,fin=.done (.ret v)∧Q v s') Ev s:=by
 obtain⟨hp,g,d,tk,os⟩:=s
 unfold Builtin.«re.Match.span» reOneGroup newTuple
 repeat (any_goals (first |assumption |wp_step))
 refine⟨_,rfl,?_⟩
 have e:((#[rawInt s0,rawInt e0]:Array Value).map reRawOf).getD 0 (-1)=s0:=by simp[reRawOf,rawInt]
 have e':((#[rawInt s0,rawInt e0]:Array Value).map reRawOf).getD 1 (-1)=e0:=by simp[reRawOf,rawInt]
 show Q _ {heap:=hp.push (seqObj true [.int (((#[rawInt s0,rawInt e0]:Array Value).map reRawOf).getD 0 (-1)) tk,.int (((#[rawInt s0,rawInt e0]:Array Value).map reRawOf).getD 1 (-1)) (tk+1)] 0),gens:=g,drawn:=d,toks:=tk+1+1,os:=os}
 rw[e,e']
 exact h
end
section
variable {c:Cx}{S:Sx}
theorem bO{w:Val}(h:Mz w=true):∃p e,w=.mt p e:=by
 induction w using Val.casesOn with
 |mt p e=>exact⟨p,e,rfl⟩
 |_=>exact nomatch h
theorem Ww{n:Str}{id:String}{b:Builtin}{sem:Val→Option Val}(slot:Slot "re.Match" n id)(ty:typeOf (.builtin id)=pure (.type "method_descriptor"))(hb:entryFor table id=some b)(ha:∀a,argsOk id ⟨[a],[]⟩)
  (g:Nat→Nat→Val) (hs:∀p e,sem (.mt p e)=some (g p e))
  (op:∀{f:Fx} {A:Around} {R:Rec} {σ:St} {a tp:Addr} {st pat:Value} {p l i:Int} {s0 e0:Nat} {n:Nat} {s:Shared} {Q:Value→Shared→Prop} {Ev:Value→Shared→Prop},s.heap.get? a=some (EW st pat p l i tp)→s.heap.get? tp=some (seqObj true [rawInt s0,rawInt e0] n)→Ap c f R σ s.heap→
   (∀R' rv s',R.le R'→An s s'→Ap c f R' σ s'.heap→c.V R' (g s0 e0) rv→Q rv s')→wpAny (model c.prog c.w) A (b ⟨[.ref a],[]⟩) (fun fin s'=>∃v,fin=.done (.ret v)∧Q v s') Ev s):
  B6 c S n Mz (fun |x,[]=>sem x |_,_=>none):=by
 intro d f A X R σ s a apos pos o xs Ev Q hbx hp hl hl1 h
 refine AY hbx hp hl hl1 (zW h (fun ov s₁ h₁ pl=>?_) fun _ _ x=>x)
 refine AD h₁ ?_;clear h₁;intro R₁ σ₁ w a₁ hw hat h₁
 refine Av (bO hat) fun p e ew=>?_
 rw[ew]at hw h₁
 refine ab hw.inv fun ad tp st pat hh=>fH hh fun pp l i nn er hz ht=>?_
 rw[er]
 refine Av a₁.r fun m led r=>?_
 have hT:s₁.TypeIs (.ref ad) "re.Match":=⟨_,r.get hz,rfl⟩
 have fin:∀vs s₂,(∃R₂ σ₂ ws,R₁.le R₂∧c.Vs R₂ ws vs∧After c S d f A X ((fun |x,[]=>sem x |_,_=>none:Val→List Val→Option Val) (.mt p e) ws) Q R₂ σ₂ s₂)→wpAny (model c.prog c.w) A (call (.builtin id) ([.ref ad]++vs)) Q Ev s₂:=fun vs s₂ h=>
  Hn h fun R₂ σ₂ ws le hvs h=>BZ h fun v hv a₂ hq=>by
   refine Av a₂.r fun m₂ led₂ r₂=>?_
   induction ws using zo with
   |nil=>
    have ev:g p e=v:=ze ((hs p e).symm.trans hv)
    rw[hvs.C7]
    have hz₂:=r₂.get (Cx.Z.mono le _ _ hz)
    exact wpAny_call_entry slot ⟨_,hz₂,rfl⟩ hb (op hz₂ (r₂.get (Cx.Z.mono le _ _ ht)) ⟨m₂,led₂,r₂⟩ (ev▸hq)) (ha _)
   |cons _ _=>exact nomatch hv
 refine getMethod_builtin hT RW slot ty (fun a' e'=>by cases e';exact⟨_,r.get hz,rfl⟩) ?_
 induction xs using zo with
 |nil=>exact fun Γ q hΓ=>(PyProof.Rows.callWith_method0 (fin [] s₁ (h₁ Γ q hΓ))) Γ q hΓ
 |cons x xs=>
  have hp':=zH.mp (jP.symm.trans hp)
  exact j8 (zW h₁ fin fun _ _ x=>x) (Ab hp'.1) (AR hp'.2)
theorem O6{rx:Rx}:B6 c S "start" Mz (fun |x,[]=>Cb rx .mstart x |_,_=>none):=
 Ww (sem:=Cb rx .mstart) MX S8 KU Mh (fun p _=>.int (.ofNat p)) (fun _ _=>rfl) fun h1 h2 r hq=>Pk h1 h2 (hq _ _ _ (.refl _) (Al (zP _)) r (.int _ _))
theorem RB{rx:Rx}:B6 c S "span" Mz (fun |x,[]=>Cb rx .mspan x |_,_=>none):=
 Ww (sem:=Cb rx .mspan) Pn VW Mm OC (fun p e=>.seq true [.int (.ofNat p),.int (.ofNat e)]) (fun _ _=>rfl) fun{f A R σ a tp st pat p l i s0 e0 n s Q Ev} h1 h2 r hq=>Sw h1 h2 (by
  refine Av r fun m led r=>?_
  refine Hm (r.frozen (r.F.push (seqObj true [.int (s0:Int) s.toks,.int (e0:Int) (s.toks+1)] 0)) (News.push r.F r.N _) (fun p hp=>jD (r.N p hp).1)) fun R1 le1 r1 z1 _ _=>?_
  refine hq R1 _ _ le1 (Al (zp (zP _) (zP _))) ⟨_,_,r1⟩ ?_
  exact .seq (vs:=[.int (s0:Int) s.toks,.int (e0:Int) (s.toks+1)]) (n:=0) ⟨_,.inr z1,rfl,rfl⟩ (show 2≤AJ by decide) (.cons (.int _ _) (.cons (.int _ _) .nil)))
end
end
section
open PySem PySem.W PySem.Calls PyProof.Rows Builtin Builtin.Str
section
variable {prog:Program}{w:World}{A:Around}
theorem Z7{α:Type}{M:Model}{Q:α→Shared→Prop}{Ev:Value→Shared→Prop}{s:Shared}{b:Bool}{x y:Sem α}(h:b=false)(k:wpAny M A y Q Ev s):wpAny M A (if b=true then x else y) Q Ev s:=by
 rw[h];exact k
end
end
section
open PySem PySem.W PySem.Calls PyProof.Rows Builtin Builtin.Str
noncomputable def Uk(e:DictEntry):Bool:=match e.key with | .int k _=>e.hash==hashInt k |_=>false
noncomputable def Z4(es:List DictEntry)(n:Nat):Bool:=match es.find? (fun e=>Value.isInt (.ofNat n) e.key)with
 |some e=>(match e.val with | .int v _=>v==.ofNat (CP n) |_=>false)
 |none=>false
noncomputable def allB{α:Type}(p:α→Bool):List α→Bool
 |[]=>true
 |x::r=>cond (p x) (allB p r) false
theorem Nu{b x:Bool}(h:cond b x false=true):b=true∧x=true:=by
 induction b using za with
 |true=>exact⟨rfl,h⟩
 |false=>exact ft h
theorem KG{α:Type}{p:α→Bool}{l:List α}(h:allB p l=true):∀x∈l,p x=true:=by
 induction l with
 |nil=>exact fun _ h=>nomatch h
 |cons y r ih=>
  intro x hx
  rcases zI.mp hx with e |hx
  ·rw[e];exact(Nu h).1
  ·exact ih (Nu h).2 x hx
noncomputable def upTo:Nat→Nat→List Nat
 |_,0=>[]
 |a,n+1=>a::upTo (a+1) n
theorem Ta{n:Nat}:∀{a x:Nat},a≤x→x < a+n→x∈upTo a n:=by
 induction n with
 |zero=>exact fun h1 h2=>absurd h2 (Nat.not_lt_of_le h1)
 |succ n ih=>
  intro a x h1 h2
  rcases Nat.eq_or_lt_of_le h1 with e |h
  ·rw[e];exact .head _
  ·exact .tail _ (ih h (by rw[Nat.succ_add];exact h2))
structure Mg(K:Frag)(pm:Addr):Prop where
 at_:∃C dd es n sl,K.lookup pm=some ⟨.ref C,dd,.dict es n,sl⟩∧findIn K (.ref C) "__getitem__"=some (some (.builtin "dict.__getitem__"))∧noSeq K C=true∧subIn K (.ref C) (.type "dict")=some true∧
  allB Uk es.toList=true∧allB (Z4 es.toList) (upTo 0 128)=true
section
variable {prog:Program}{w:World}{A:Around}{s:Shared}{Ev:Value→Shared→Prop}
theorem Qx{C:Value}{x y:Value}(ty:Looks (model prog w) s.heap (typeOf x) C)(sub:Looks (model prog w) s.heap (isSubtype C (.type "dict")) true)(ha:argsOk "dict.__getitem__" ⟨[x,y],[]⟩){B:Around}{Q':Unit→Shared→Prop}(hq:Q' () s):wpAny (model prog w) B (checkBuiltinCall "dict.__getitem__" ⟨[x,y],[]⟩) Q' Ev s:=by
 have hkd:builtinKind "dict.__getitem__"=some .slot∨builtinKind "dict.__getitem__"=some .method:=by decide+kernel
 have hsp:splitId "dict.__getitem__"=some ("dict","__getitem__"):=by decide+kernel
 rcases hkd with hkd |hkd <;>
 ·simp only[checkBuiltinCall,hkd,hsp]
  unfold isInstance
  refine zj (zj (ty.here (sub.here ?_)))
  simp only[Bool.not_true,jB,if_false]
  induction hsig:Manifest.signature? "dict.__getitem__" using zh with
  |none=>exact zF hq
  |some sig=>
   simp only[argsOk,hsig]at ha
   exact jT ha hq
theorem Ul{e:DictEntry}(h:Uk e=true):∃k t,e.key=.int k t∧e.hash=hashInt k:=by
 unfold Uk at h
 cases q:e.key with
 |int k t=>rw[q]at h;exact⟨k,t,rfl,eq_of_beq h⟩
 |_=>rw[q]at h;exact ft h
theorem kz{o:Option DictEntry}{n:Nat}(h:(match o with |some e=>(match e.val with | .int v _=>v==.ofNat (CP n) |_=>false) |none=>false)=true):∃u,o.map (·.val)=some (.int (.ofNat (CP n)) u):=by
 induction o using zh with
 |none=>exact ft h
 |some e=>
  obtain⟨_,_,v⟩:=e
  cases v with
  |int v t=>exact⟨t,zy (fun v=>some (Value.int v t)) (eq_of_beq h)⟩
  |_=>exact ft h
theorem VZ{es:Array DictEntry}{n:Nat}(h:Z4 es.toList n=true):∃u,findBy Value.isInt es (.ofNat n)=some (.int (.ofNat (CP n)) u):=by
 refine zg (kz h) fun u e=>?_
 refine⟨u,?_⟩
 unfold findBy
 obtain⟨l⟩:=es
 rw[List.find?_toArray]
 exact e
theorem MQ{K:Frag}{pm:Addr}(P:Mg K pm)(X:K.In s.heap){n:Nat}{u:Tok}(hn:n < 128){Q:Value→Shared→Prop}
  (h:∀u',Q (.int (.ofNat (CP n)) u') {s with toks:=s.toks+1}):wpAny (model prog w) A (getItem (.ref pm) (.int (.ofNat n) u)) Q Ev s:=by
 obtain⟨C,dd,es,ep,sl,hl,hf,hq,hsub,hk,hv⟩:=P.at_
 have ho:=X _ _ hl
 have ty:Looks (model prog w) s.heap (typeOf (.ref pm)) (.ref C):=(Looks.ld ho).andThen .now
 unfold getItem sequenceKey
 refine jw (zj (zj (ty.here ?_)))
 refine zj ((anyM_none X hq).here ?_)
 rw[z5 (show(!false)=true from rfl)]
 refine zF (zj ?_)
 refine zj (zj (ty.here ((looks_findIn X hf).here (jw (zj (jT (slot_dict_getitem.bind _) (zj ?_)))))))
 refine Jg (codeAny_call_builtin slot_dict_getitem.plain entry_dict_getitem (Qx ty (looks_subIn X hsub) (args_dict_getitem (.ref pm) (.int (.ofNat n) u)) ?_))
 show wpAny _ _ (dictGet pm (.int (.ofNat n) u) >>=_) _ _ s
 refine zj ?_
 unfold dictGet
 refine zg (VZ (KG hv n (Ta (zY _) (by rw[jr];exact hn)))) fun u' hfb=>?_
 rw[findBy_of_findIdx?]at hfb
 refine jw (zj ((intKind prog w).pyHash (intKind_is prog w (.ofNat n) u) (zj (wpAny_dictFind_of (knd:=intKind prog w) (s:={s with toks:=s.toks+1}) (intKind_is prog w (.ofNat n) u) ho rfl (fun e he=>?_) ?_))))
 ·refine AH (Ul (KG hk e (Array.mem_toList_iff.mpr he))) fun k t e1 e2=>?_
  exact⟨k,by rw[e1];exact intKind_is prog w k t,e2⟩
 ·show wpAny _ _ (match es.findIdx? (fun e=>Value.isInt (.ofNat n) e.key)with |some i=>_ |none=>_) _ _ _
  induction hi:es.findIdx? fun e=>Value.isInt (.ofNat n) e.key using zh with
  |none=>rw[hi]at hfb;exact nz hfb
  |some i=>
   rw[hi]at hfb
   refine zj (wpAny_dictEntries (s:={s with toks:=s.toks+1}) ho rfl (zF ?_))
   rw[show es[i]?.map (·.val)=some (.int (.ofNat (CP n)) u')from hfb]
   exact zF (zF (zF (h u')))
end
end
section
open PySem PySem.W PySem.Calls PyProof.Rows Builtin Builtin.Str
section
variable {prog:Program}{w:World}{A:Around}{s:Shared}{Ev:Value→Shared→Prop}
theorem S2:∀n,n < 128→CP n < 128:=by decide
theorem U0{K:Frag}{pm:Addr}(P:Mg K pm)(X:K.In s.heap){n:Nat}(hn:n < 128){Q:Mapped→Shared→Prop}
  (h:∀k,Q (.char (CP n)) {s with toks:=k}):wpAny (model prog w) A (tableLookup (.ref pm) n) Q Ev s:=by
 unfold tableLookup
 refine zj (wpAny_attempt (zj (wpAny_mkInt (MQ (s:={s with toks:=s.toks+1}) P X hn fun u'=>?_))))
 have hl:=S2 n hn
 have hd:(decide (Int.ofNat (CP n) < 0) || decide (Int.ofNat (CP n) >0x10FFFF))=false:=by
  have e:Int.ofNat (CP n)=((CP n:Nat):Int):=rfl
  rw[JC,e]
  exact⟨zU (by lia),zU (by lia)⟩
 refine zj (m:=asInt? (.int (.ofNat (CP n)) u')) (zF ?_)
 show wpAny _ _ (if(decide (Int.ofNat (CP n) < 0) || decide (Int.ofNat (CP n) >0x10FFFF))=true then _ else _) _ _ _
 rw[hd]
 simp only[jB,if_false]
 exact zF (h _)
noncomputable abbrev IP:=List Str×Nat×Bool×List (Nat×Option Nat)×Bool
noncomputable def PN(done:Txt):List Str:=(done.map fun c=>(⟨#[CP c]⟩:Str)).reverse
noncomputable def Vo(kn:List (Nat×Option Nat)):Prop:=∀c a,kn.lookup c=some a→a=some (CP c)
noncomputable def eU(done:Txt)(kn:List (Nat×Option Nat)):IP:=(PN done,done.length,true,kn,false)
theorem SJ(done:Txt)(c:Nat):PN (done++[c])=⟨#[CP c]⟩::PN done:=by
 unfold PN;rw[jh,List.reverse_append];rfl
theorem SK(done:Txt)(c:Nat)(kn:List (Nat×Option Nat)):eU (done++[c]) kn=(⟨#[CP c]⟩::PN done,done.length+1,true,kn,false):=by
 unfold eU;rw[SJ,zd];rfl
theorem Zs{M:Model}{f:Nat→IP→Sem (ForInStep IP)}
  (hf:∀done c kn n (P:ForInStep IP→Shared→Prop),c < 128→done.length≤AJ→Vo kn→(∀kn' n',Vo kn'→P (.yield (⟨#[CP c]⟩::PN done,done.length+1,true,kn',false)) {s with toks:=n'})→wpAny M A (f c (PN done,done.length,true,kn,false)) P Ev {s with toks:=n}):
  ∀(l done:Txt) (kn:List (Nat×Option Nat)) (n:Nat) (P:IP→Shared→Prop),Bq 128 l=true→done.length+l.length≤AJ→Vo kn→(∀kn' n',Vo kn'→P (eU (done++l) kn') {s with toks:=n'})→wpAny M A (forIn l (eU done kn) f) P Ev {s with toks:=n}:=by
 intro l
 induction l with
 |nil=>
  intro done kn n P _ _ I h
  rw[List.forIn_nil]
  rw[zE]at h
  exact zF (h _ _ I)
 |cons c l ih=>
  intro done kn n P hl hn I h
  rw[Jc]
  rw[zK]at hn
  refine Aw (Nu hl) fun hc hl=>?_
  refine zj (hf done c kn n _ (CC hc) (by lia) I fun kn' n' I'=>?_)
  rw[←SK]
  refine ih (done++[c]) kn' n' P hl (by rw[zd,List.length_singleton];lia) I' ?_
  rw[zl,List.singleton_append]
  exact h
theorem Ok:∀(l:Txt) (a:Array Nat),(l.map fun c=>(⟨#[CP c]⟩:Str)).foldl (fun acc p=>acc++p.cps) a=a++(l.map CP).toArray
 |[],a=>by simp
 |c::l,a=>by
  rw[JA,List.foldl_cons,Ok l]
  simp
theorem Oz{n:Nat}(l:Txt)(h:Bq n l=true):(l.all fun x=>decide (x < n))=true:=by
 induction l with
 |nil=>rfl
 |cons c l ih=>
  refine Aw (Nu h) fun q h=>?_
  rw[jP,ja (CC q),ih h];rfl
theorem Vp{kn:List (Nat×Option Nat)}{c:Nat}(I:Vo kn):Vo ((c,some (CP c))::kn):=by
 intro c' a' h
 rw[zV]at h
 induction e:c'==c using za with
 |true=>rw[e]at h;rw[eq_of_beq e];exact(ze h).symm
 |false=>rw[e]at h;exact I c' a' h
theorem kg{M:Model}{f:Nat→IP→Sem (ForInStep IP)}{l:Txt}{k:Nat}{b:Bool}{P:IP→Shared→Prop}
  (hf:∀done c kn n (P:ForInStep IP→Shared→Prop),c < 128→done.length≤AJ→Vo kn→(∀kn' n',Vo kn'→P (.yield (⟨#[CP c]⟩::PN done,done.length+1,true,kn',false)) {s with toks:=n'})→wpAny M A (f c (PN done,done.length,true,kn,false)) P Ev {s with toks:=n})
  (ht:Bq 128 l=true) (hl:l.length≤AJ) (hb:b=true) (h:∀kn' n',Vo kn'→P (eU l kn') {s with toks:=n'}):wpAny M A (forIn l.toArray ([],0,b,[],false) f) P Ev {s with toks:=k}:=by
 rw[List.forIn_toArray,hb]
 exact Zs hf l [] [] k P ht (by rw[List.length_nil,jr];exact hl) (fun _ _ h=>nomatch h) h
theorem LK{K:Frag}{pm:Addr}(P:Mg K pm)(X:K.In s.heap){t:Txt}{tk:Tok}{Q:Value→Shared→Prop}(ht:Bq 128 t=true)(hl:t.length≤AJ)
  (h:∀tk' v,v=.str ⟨(t.map CP).toArray⟩ tk'→∀n,Q v {s with toks:=n}):
  wpAny (model prog w) A (Builtin.«str.translate» ⟨[.str ⟨t.toArray⟩ tk,.ref pm],[]⟩) (fun fin s'=>∃v,fin=.done (.ret v)∧Q v s') Ev s:=by
 obtain⟨hp,g,d,tks,os⟩:=s
 unfold Builtin.«str.translate»
 repeat (any_goals (first |assumption |wp_step))
 have hz:=sizeLine_eq
 have hL:=A6
 induction h0:(⟨t.toArray⟩:Str).length==0 using za with
 |true=>
  have e:t=[]:=jc (eq_of_beq h0)
  refine zj (wpAny_rule ?_)
  refine zj (m:=strUnchanged _ _) (zF ?_)
  exact zF ⟨_,rfl,h tk _ (by rw[e];rfl) tks⟩
 |false=>
  refine Z7 rfl ?_
  refine zj (kg (s:=⟨hp,g,d,tks,os⟩) (k:=tks) ?_ ht hl (List.all_toArray.trans (Oz t ht)) ?_)
  ·intro done c kn n P' hc hdn hk hP
   refine Z7 (zU (by lia)) ?_
   induction q:kn.lookup c using zh with
   |some a=>
    rw[hk c a q]
    exact zF (hP kn n hk)
   |none=>
    refine zj (U0 P (by exact X) hc fun k=>?_)
    simp only[S2 c hc,if_true]
    exact zF (hP _ k (Vp hk))
  ·intro kn n' I
   show wpAny _ _ (if tooLong t.length=true then _ else _) _ _ _
   have htl:tooLong t.length=false:=by
    unfold tooLong
    exact zU (by lia)
   refine Z7 htl ?_
   have e:List.foldl (fun acc (p:Str)=>acc++p.cps) #[] (PN t).reverse=(t.map CP).toArray:=by
    unfold PN
    rw[List.reverse_reverse,Ok,Array.empty_append]
   show wpAny _ _ (retStr ⟨List.foldl (fun acc (p:Str)=>acc++p.cps) #[] (PN t).reverse⟩) _ _ _
   rw[e]
   refine zj (wpAny_mkStr (zF ⟨_,rfl,h _ _ rfl _⟩) ?_)
   show(List.map CP t).toArray.size≤sizeLine
   rw[zL,jb];lia
end
end
section
open PySem PySem.W PySem.Calls PyProof.Rows Builtin Builtin.Str
section
variable {c:Cx}{S:Sx}
theorem IY{d:Nat}{f:Fx}{A:Around}{X:AN→St→Prop}{R:Rec}{σ:St}{s:Shared}(a:At c S d f A X R σ s){pm:Addr}(P:Mg c.K pm){t:Txt}{tk:Tok}(ht:Bq 128 t=true)(hl:t.length≤AJ):
  AV c f A R σ s (call (.builtin "str.translate") [.str ⟨t.toArray⟩ tk,.ref pm]) (.str (t.map CP)):=by
 refine AV.plain a.r fun E Q hq=>?_
 refine Av a.r fun m led r=>?_
 refine wpAny_call_entry PySem.F.slot_str_translate (Jw _ _ _) PySem.F.entry_str_translate (LK P (a.G.X.keeps r.F.keep) ht hl fun tk' v hv n=>?_) (PySem.F.args_str_translate_2 _ _)
 subst hv
 exact hq _ n (.str _ _ (by rw[jb];exact hl))
theorem kG{n trn:Str}{id:String}{sem:Val→Option Val}{x:PySem.Expr}{g:Value}{p q q':Pos}(slot:Slot "str" n id)(ty:typeOf (.builtin id)=pure (.type "method_descriptor"))(gl:Te c S trn g)(hb:Cs x)(hl:(q.endLine==p.line)=true)
  (dom:∀w v,sem w=some v→∃t,w=.str t∧sem (.str t)=some v)
  (op:∀{d:Nat} {f:Fx} {A:Around} {X:AN→St→Prop} {R:Rec} {σ:St} {s:Shared} {t:Txt} {tk:Tok} {v:Val},At c S d f A X R σ s→t.length≤AJ→sem (.str t)=some v→AV c f A R σ s (call (.builtin id) [.str ⟨t.toArray⟩ tk,g]) v):
  Nh c S x (.Call (.Attribute x n q) [.Name trn q'] [] p) sem:=by
 intro d f A X R σ s a Ev Q h
 refine AY hb rfl (by show 1 < 25;decide) hl (zW h (fun ov s₁ h₁ pl=>?_) fun _ _ x=>x)
 refine DS h₁ fun R₁ σ₁ w hw h=>BZ h fun v hv a₁ hq=>?_
 refine Aa (dom w v hv) fun t ew hv=>?_
 rw[ew]at hw
 refine Aa hw.ZG fun tk hlen er=>?_
 rw[er]
 refine GM.of _ (Jw _ _ _) slot ty (fun _ h=>nomatch h) ?_
 exact j8 (jf (GE a₁ gl (jI (op a₁ hlen hv Ev Q fun R' rv s' le' sm' r' hv'=>hq R' rv s' le' sm' r' hv'))) (Ab rfl)) (Ab rfl) (AR rfl)
theorem PI{rx:Rx}{pm:Addr}{x:PySem.Expr}{trn:Str}{p q q':Pos}(P:Mg c.K pm)(g:Te c S trn (.ref pm))(hb:Cs x)(hl:(q.endLine==p.line)=true):
  Nh c S x (.Call (.Attribute x "translate" q) [.Name trn q'] [] p) (Cb rx .squeeze):=by
 exact kG (id:="str.translate") PySem.F.slot_str_translate PySem.F.type_str_translate g hb hl (fun _ _ h=>bS h) fun a hlen hv=>by
  rw[←(AO hv).2];exact IY a P (AO hv).1 hlen
end
end
end Ag
section
open PySem PySem.W PySem.Calls PyProof.Rows
namespace Ag
section
section
variable {c:Cx}{f:Fx}{R:Rec}{σ:St}{h h':Heap}{m:Str→Option Value}{led:List (Addr×Obj)}
theorem Rel.Tz(r:Rel c f R σ h m led){dx:Addr}{o:Obj}(F:Fr f.h₀ f.L h' m)(N:News f.h₀ f.L h' ((dx,o)::led))(hf:∀p∈led,p.1 < dx):
  R.le {R with ρ:=R.ρ++[dx]}∧Rel c f {R with ρ:=R.ρ++[dx]} ⟨σ.loc,σ.own,σ.self,σ.heap++[.taken]⟩ h' m ((dx,o)::led):=by
 have le:R.le {R with ρ:=R.ρ++[dx]}:=⟨⟨[dx],rfl⟩,⟨[],by simp⟩,fun _ h=>h,rfl,rfl⟩
 have old:∀(j:Nat) (ce:Ag.Cell),(σ.heap++[Ag.Cell.taken])[j]? =some ce→ce≠ .taken→σ.heap[j]? =some ce∧(R.ρ++[dx])[j]? =R.ρ[j]? :=fun j ce hj ho=>by
  have hlt:j < σ.heap.length:=by
   apply Jq
   intro hn
   rw[zM (by lia)]at hj
   induction q:j - σ.heap.length using zz with
   |zero=>rw[q]at hj;exact ho (ze hj).symm
   |succ k=>rw[q]at hj;cases hj
  rw[zJ hlt]at hj
  exact⟨hj,zJ (by rw[r.hlen];exact hlt)⟩
 have mut':∀b,F6 f {R with ρ:=R.ρ++[dx]} b→b=dx∨F6 f R b:=fun b hb=>by
  rcases hb with hb |hb
  ·rcases zt.mp hb with hb |hb
   ·exact .inr (.inl hb)
   ·exact .inl (zG.mp hb)
  ·exact .inr (.inr hb)
 refine⟨le,?_⟩
 refine{F:=F,N:=N,nd:=J7 r.nd hf,slots:=fun k n v hk hv=>?_,clo:=fun n a' ha=>?_,self:=fun x dx hs=>?_,self0:=r.self0,ml:=fun b hb=>?_,hlen:=?_,cells:=fun j ce hj ho=>?_,oln:=r.oln,owns:=fun k xs' hk=>?_,zs:=fun p hp=>zr _ (r.zs p hp),ex:=fun p hp=>zr _ (r.ex p hp),D1:=?_,D2:=fun x dx hs=>?_,D3:=fun b hb p hp=>?_,D4:=r.D4,B:=r.B}
 ·exact BF (fun a o a1 a2=>zr _ a2) (fun _ b=>b.up le) (r.slots k n v hk hv)
 ·refine AH (r.clo n a' ha) fun o' v a1 a2=>?_
  exact⟨o',v,zr _ a1,a2⟩
 ·obtain⟨a1,a2,es,n,a3,a4⟩:=r.self x dx hs
  exact⟨a1,Cx.Z.mono le _ _ a2,es,n,zr _ a3,a4.up le⟩
 ·rcases mut' b hb with e |hb
  ·subst e;exact .head _
  ·exact zr _ (r.ml b hb)
 ·show(R.ρ++[dx]).length=(σ.heap++[Ag.Cell.taken]).length
  rw[zd,zd,r.hlen];rfl
 ·refine Aw (old j ce hj ho) fun h1 h2=>?_
  refine Aq (r.cells j ce h1 ho) fun a' o a1 a2 a3=>?_
  exact⟨a',o,h2.trans a1,zr _ a2,a3.up le⟩
 ·refine AD (r.owns k xs' hk) fun a' vs n a1 a2 a3 a4=>?_
  exact⟨a',vs,n,a1,zr _ a2,a3,Vs.up le a4⟩
 ·show(R.ρ++[dx]++R.ω++f.cl.map (·.2)).Nodup
  rw[zl,zl]
  refine(List.Perm.nodup_iff (List.perm_middle (a:=dx) (l₁:=R.ρ) (l₂:=R.ω++f.cl.map (·.2)))).mpr (jg.mpr ⟨fun hm=>?_,by rw[←zl];exact r.D1⟩)
  have hM:F6 f R dx:=by
   rcases zt.mp hm with hm |hm
   ·exact .inl hm
   ·rcases zt.mp hm with hm |hm
    ·exact .inr (.inl hm)
    ·exact .inr (.inr (.inl hm))
  exact r.fresh hf dx hM rfl
 ·refine Bx (r.D2 x dx hs) fun d1 d2 d3=>?_
  exact⟨d1,d2,fun j ce hj ho=>by
   refine Aw (old j ce hj ho) fun h1 h2=>?_
   show(R.ρ++[_])[j]? ≠_
   rw[h2];exact d3 j ce h1 ho⟩
 ·rcases mut' b hb with e |hb
  ·subst e
   intro e'
   have hm:p∈led:=by
    rcases zt.mp hp with hp |hp
    ·exact r.zs p hp
    ·exact r.ex p hp
   exact absurd (hf p hm) (by rw[e'];exact j6 _)
  ·exact r.D3 b hb p hp
end
theorem HL(A:Around)(C:Addr)(rest:List Value)(kw:List (Str×Value)):Ov A (A.under (.builtin "type.__call__" ⟨.ref C::rest,kw⟩)):=by
 refine⟨rfl,rfl,rfl,?_,?_⟩
 ·exact je (by show 1≤4;decide) _
 ·exact je (by show 1≤4;decide) _
section
variable {c:Cx}{C:Cfg}{d:Nat}{S:Sx}
theorem Fm:∀n,B1 (Bz n)=Bz n
 |0=>rfl
 |n+1=>by show none::B1 (Bz n)=none::Bz n;rw[Fm n]
theorem EY{α:Type}:∀n,(Bz n:List (Option α)).length=n
 |0=>rfl
 |n+1=>by show(Bz n:List (Option α)).length+1=n+1;rw[EY n]
theorem K4{R:Rec}:Ar c R (B1 (Bz c.attrs.length)) []:=
 ⟨fun k n _=>by rw[Fm,Fj];rfl,fun _ _=>rfl,zY _,by rw[Fm,EY]⟩
theorem RL{R:Rec}{h:Heap}{r:Val}{rv:Value}(e:Gh r=true)(y:VH c R h r rv):rv=.none:=by
 induction r using Val.casesOn with
 |none=>exact(y.v rfl).inv
 |_=>exact nomatch e
theorem Yw{n:Str}{fI:Addr}(hm:S.Af=false)(g:Te c S n (.ref c.PC))(hk:keepIn c.K (.ref c.PC)=true)(hmk:makesIn c.K c.PC=true)(hi:findIn c.K (.ref c.PC) "__init__"=some (some (.ref fI)))(hf:isFn c.K (.ref fI)=true)
  (hfad:c.fad[C.init]? =some fI) (hmth:c.mth C.init=true) (hnf:C.nf=c.attrs.length) (HC:AM c C d c.mth):PR c C d S n:=by
 intro f A X R σ s K npos pos x xs a hp har Ev Q xo hq
 rw[AI]
 refine zj (GE a g ?_)
 have fin:∀(vs:List Val) (σ₁:St) (R₁:Rec) (rvs:List Value) (s₁:Shared),R.le R₁→An s s₁→Ap c f R₁ σ₁ s₁.heap→c.Vs R₁ vs rvs→
   C.call C.init (Bz C.nf) vs (σ₁.heap++[.taken]) (fun r fs' h=>Be (Gh r) (K (.v (.obj σ₁.heap.length)) (σ₁.BA (h.set σ₁.heap.length (.Ao fs')))) False) (fun _ _ _=>False)→
   wpAny (model c.prog c.w) A (call (.ref c.PC) rvs) Q Ev s₁:=fun vs σ₁ R₁ rvs s₁ le sm rx hvs hcall=>by
  have a₁:=a.up le sm rx
  refine Av rx fun m led r=>?_
  have hsd:R₁.sd=none:=by
   have h:=a₁.Af;rw[hm]at h
   revert h
   induction R₁.sd using zh with
   |none=>exact fun _=>rfl
   |some _=>exact nofun
  refine call_cls r.F a.G.X r.N hmk hi hf fun x dx h' F' N' hlt hxd=>?_
  refine Aw (r.Tz F' (fun p hp=>N' p (.tail _ hp)) hlt) fun le1 r1=>?_
  obtain⟨R2,le2,r2,z2,e1,e2⟩:=r1.frozen F' N' (fun p hp=>by
   rcases zI.mp hp with e |hp
   ·rw[e];exact hxd
   ·exact Nat.lt_trans (hlt p hp) hxd)
  have hρ:R2.ρ=R₁.ρ++[dx]:=e1
  have hz:c.Z R2 x (instObj c.PC dx):=.inr z2
  have le12:R₁.le R2:=le1.trans le2
  have hsd2:R2.sd=none:=le12.sd.trans hsd
  have hd:R2.ρ[σ₁.heap.length]? =some dx:=by
   rw[hρ,←r.hlen];simp
  rw[hnf]at hcall
  refine HC C.init (Bz c.attrs.length) vs (σ₁.heap++[.taken]) _ _ fI hfad hcall f A _ R2 ⟨σ₁.loc,σ₁.own,σ₁.self,σ₁.heap++[.taken]⟩ {s₁ with heap:=h'} m _ (some (x,dx)) rvs ⟨a.G,HL A c.PC rvs [],r2,Vs.up le12 hvs,by rw[hmth];rfl,
   fun x' dx' e=>by cases e;exact⟨hz,[],0,.tail _ (.head _),K4⟩,(fun h=>nomatch h),
   fun j ce hj ho=>⟨hj,fun x' dx' e hj'=>by
    cases e
    have hj0:j=σ₁.heap.length:=DX (Gq r2.D1) hj' hd
    subst hj0
    rw[zM (zu _),jl]at hj
    exact ho (ze hj).symm⟩,rfl,fun x' dx' e=>by cases e;exact .inr (by rw[hρ];exact zi _ (.head _))⟩ _ (fun r' fs' hh rv s' f' R' σ' m' led' lv hk sm' le' r₁ hlook hlr hfz hheap F N=>?_) ii
  subst hheap
  refine Aw (Bm hk) fun hnone hk=>?_
  have hrv:=RL hnone (NU r₁ hlook hlr)
  have hsd':R'.sd=some (x,dx):=le'.sd
  refine Bx (r₁.self x dx hsd') fun _ _ h0=>AH h0 fun es' n' y1 y2=>?_
  obtain⟨rn,len⟩:=r2.toRelL.leave (sd:=some (x,dx)) (fsl:=σ₁.self) (hp:=σ'.heap.set σ₁.heap.length (.Ao fs')) le'.x r₁.toRelL (fun x' dx' e=>by cases e;exact .inr ⟨hsd2,Az hd⟩) (fun h=>absurd hsd2 h) (fun x dx es n e=>by rw[hsd2]at e;cases e) (fun _=>r.self0 hsd) (jK ..)
   (fun i ce hi ho=>by
    by_cases e:σ₁.heap.length=i
    ·subst e
     have hlt:σ₁.heap.length < σ'.heap.length:=by
      have:=(zn.mp hi).1
      rwa[jK]at this
     rw[jv hlt]at hi
     cases hi
     refine .inr ⟨dx,_,?_,y1,⟨es',n',rfl,CO r₁.toRelL hfz y2⟩,hsd2⟩
     refine zg le'.ρ fun t ht=>?_
     rw[ht]
     show(R2.ρ++t)[σ₁.heap.length]? =some dx
     rw[zJ (zn.mp hd).1];exact hd
    ·rw[jQ e]at hi
     exact .inl hi)
  refine⟨hrv,hq (.v (.obj σ₁.heap.length)) _ _ (.ref x) s' (le.trans (le12.trans len)) (sm.trans ⟨sm'.gens,sm'.drawn,sm'.os,sm'.tk⟩) hk ⟨m,led',rn.at_ F N⟩ (.v (.obj (Cx.Z.mono len _ _ hz) ?_))⟩
  refine zg len.ρ fun t ht=>?_
  rw[ht,zJ (zn.mp hd).1];exact hd
 have hp':=hp
 rw[jP,jN]at hp'
 refine callWith_K a.G.X hk (har Ev _ xo fun vs σ₁ R₁ rvs s₁ le sm hk r hvs hlen=>?_) (Ab hp'.1) (AR hp'.2)
 have r':=r
 refine Av r' fun m led r0=>?_
 exact⟨a.G.X.keeps r0.F.keep,fin vs σ₁ R₁ rvs s₁ le sm r hvs hk⟩
end
end
end Ag
end
namespace Ag.Rxm
section
open PySem PySem.Sre
noncomputable abbrev SP:=Nat×Nat
noncomputable def mk(code text:Array Nat)(lim:Nat)(start:SP)(pc pos hd:Nat)(om:Bool)(I:Option Nat)(L:Array Loop)(F:List Sre.Frame)(w:Nat)(ans:Option Bool)(sn:Seen):M:=
 {code,text,lim,start:=start.1,lastStart:=start.2,pc,pos,handed:=hd,outermost:=om,marks:= #[],loops:=L,inner:=I,frames:=F,weight:=w,answer:=ans,seen:=sn}
noncomputable def iter:Nat→M→M
 |0,m=>m
 |n+1,m=>iter n m.step
theorem DH:∀(a b:Nat) (m:M),iter (a+b) m=iter b (iter a m)
 |0,b,m=>by rw[jr];rfl
 |a+1,b,m=>by rw[Nat.succ_add];exact DH a b m.step
noncomputable def R(n:Nat)(m:M)(P:M→Prop):Prop:=∃k,k≤n∧P (iter k m)
theorem R.here{n:Nat}{m:M}{P:M→Prop}(h:P m):R n m P:=⟨0,zY _,h⟩
theorem R.step{n:Nat}{m m':M}{P:M→Prop}(e:m.step=m')(h:R n m' P):R (n+1) m P:=by
 refine Aa h fun k hk hp=>?_
 exact⟨k+1,z3 hk,by show P (iter k m.step);rw[e];exact hp⟩
theorem R.cast{a b:Nat}{m:M}{P:M→Prop}(h:R a m P)(l:a=b):R b m P:=l▸h
theorem R.mono{a b:Nat}{m:M}{P:M→Prop}(h:R a m P)(l:a≤b):R b m P:=by
 refine Aa h fun k hk hp=>?_
 exact⟨k,zp hk l,hp⟩
theorem R.sw{N n:Nat}{m:M}{P:M→Prop}(h:R (N+1+n) m P):R (N+n+1) m P:=h.cast (jM N 1 n)
theorem w1{w n:Nat}(h:w+(n+1)≤16777216):w+1≤16777216:=zp (z3 (zB w n)) h
theorem w2{w n:Nat}(h:w+(n+1)≤16777216):w+1+n≤16777216:=zp (Jn (Nat.succ_add w n)) h
theorem w3{w n:Nat}(h:w+(n+1)≤16777216):w+n≤16777216:=Nat.le_of_succ_le h
section
variable (code text:Array Nat)(lim:Nat)(start:SP)
noncomputable def Go(z:Bool)(I:Option Nat)(L:Array Loop)(r:Option Nat)(F:List Sre.Frame)(w N:Nat)(Q:M→Prop):Prop:=
 ∀pc hd pos om I' L' sn,(∀e,r=some e→hd=e)→(r=none∨z=true→I'=I∧L'=L)→R N (mk code text lim start pc pos hd om I' L' F w (some r.isSome) sn) Q
noncomputable def B(z:Bool)(n pc pos:Nat)(I:Option Nat)(L:Array Loop)(r:Option Nat):Prop:=
 ∀hd om F w sn N Q,w+n≤16777216→Go code text lim start z I L r F w N Q→R (N+n) (mk code text lim start pc pos hd om I L F w none sn) Q
end
section
variable {z:Bool}{code text:Array Nat}{lim:Nat}{start:SP}{n pc pos hd w N:Nat}{om:Bool}{I:Option Nat}{L:Array Loop}{F:List Sre.Frame}{sn:Seen}{r:Option Nat}{Q:M→Prop}
theorem B.mono{n':Nat}(h:B code text lim start z n pc pos I L r)(l:n≤n'):B code text lim start z n' pc pos I L r:=
 fun hd om F w sn N Q hw k=>(h hd om F w sn N Q (zp (je l w) hw) k).mono (je l N)
theorem Go.no{pc:Nat}(k:Go code text lim start z I L none F w N Q):R N (mk code text lim start pc pos hd om I L F w (some false) sn) Q:=k pc hd pos om I L sn nofun fun _=>⟨rfl,rfl⟩
theorem step_mk(hp:pc < code.size):(mk code text lim start pc pos hd om I L F w none sn).step=(mk code text lim start pc pos hd om I L F w none sn).exec:=by
 unfold M.step
 show(if(none:Option Sre.Outcome).isSome=true then _ else if pc < code.size then _ else _)=_
 rw[zR (by simp),z5 hp]
theorem size_of{k v:Nat}(h:code.getD k 0=v+1):k < code.size:=by
 apply Jq
 intro hk
 rw[Jf,Array.getElem?_eq_none (by lia)]at h
 cases h
theorem BW(f:Sre.Frame)(hf:f.kept.marks.size=0)(b:Bool):(mk code text lim start pc pos hd om I L (f::F) (w+1) (some b) sn).step=M.resume (mk code text lim start f.pc f.pos hd f.outermost I L F w none sn) f b:=by
 unfold M.step
 show M.resume {mk code text lim start f.pc f.pos hd f.outermost I L F w none sn with weight:=w+1 - (1+f.kept.marks.size)} f b=_
 rw[hf];rfl
theorem a7(m:M)(h:m.word 0=1):m.exec=if(m.outermost && ((m.wholeText && m.pos !=m.lim) || (m.mustAdvance && m.pos==m.start)))=true then({m with seen:=m.seen.add 1}:M).say false else{m with seen:=m.seen.add 1,handed:=m.pos,answer:=some true}:=by
 unfold M.exec
 rw[h]
 rfl
theorem gG(h:code.getD pc 0=1):B code text lim start z 1 pc pos I L (some pos):=fun hd om F w sn N Q _ k=>
 R.step ((step_mk (size_of h)).trans ((a7 (mk code text lim start pc pos hd om I L F w none sn) h).trans (zR (by induction om using za <;>exact jp)))) (k pc pos pos om I L _ (fun _ h=>ze h) fun _=>⟨rfl,rfl⟩)
noncomputable def FM(k:Nat):Bool:=k==2 || k==3 || k==13 || k==16 || k==20
theorem LC(h:FM (code.getD pc 0)=true):(mk code text lim start pc pos hd om I L F w none sn).exec=
  if pos≥lim then mk code text lim start pc pos hd om I L F w (some false) (sn.add (code.getD pc 0))else
   match accepts code pc (text.getD pos 0) (sn.add (code.getD pc 0))with
   | .error why=>(mk code text lim start pc pos hd om I L F w none (sn.add (code.getD pc 0))).stick why
   | .ok (false,seen)=>mk code text lim start pc pos hd om I L F w (some false) seen
   | .ok (true,seen)=>mk code text lim start (pc+itemWidth code pc) (pos+1) hd om I L F w none seen:=by
 unfold M.exec
 have e:(mk code text lim start pc pos hd om I L F w none sn).word 0=code.getD pc 0:=rfl
 rw[e]
 revert h
 generalize code.getD pc 0=k
 intro h
 unfold FM at h
 simp only[JM,beq_iff_eq]at h
 rcases h with(((rfl |rfl) |rfl) |rfl) |rfl <;>rfl
theorem LN(h:FM (code.getD pc 0)=true):pc < code.size:=by
 apply Jq
 intro hk
 rw[Jf,Array.getElem?_eq_none (JS hk)]at h
 cases h
theorem aH(h:FM (code.getD pc 0)=true){a:Nat→Bool}(ha:∀c sn,∃sn',accepts code pc c sn=.ok (a c,sn'))(hl:pos < lim)(hy:a (text.getD pos 0)=true){k:Nat}(hw:itemWidth code pc=k)(hB:B code text lim start z n (pc+k) (pos+1) I L r):B code text lim start z (n+1) pc pos I L r:=by
 subst hw
 intro hd om F w sn N Q hw' k
 refine zg (ha (text.getD pos 0) (sn.add (code.getD pc 0))) fun sn' e=>?_
 refine R.step ((step_mk (LN h)).trans ((LC h).trans ((zR (Nat.not_le_of_lt hl)).trans ?_))) (hB hd om F w sn' N Q (w3 hw') k)
 rw[e,hy]
theorem Qi(h:FM (code.getD pc 0)=true){a:Nat→Bool}(ha:∀c sn,∃sn',accepts code pc c sn=.ok (a c,sn'))(hl:pos < lim→a (text.getD pos 0)=false):B code text lim start z 1 pc pos I L none:=by
 intro hd om F w sn N Q hw' k
 refine R.step ((step_mk (LN h)).trans (LC h)) ?_
 by_cases hp:pos≥lim
 ·rw[z5 hp];exact k.no
 ·rw[zR hp]
  refine zg (ha (text.getD pos 0) (sn.add (code.getD pc 0))) fun sn' e=>?_
  rw[e,hl (Jk hp)]
  exact k.no
theorem XQ(m:M)(h:m.word 0=15):m.exec={m with seen:=m.seen.add 15,pc:=m.pc+1+m.word 1}:=by
 unfold M.exec
 rw[h]
 rfl
theorem Qh(h:code.getD pc 0=15){k:Nat}(h1:code.getD (pc+1) 0=k)(hB:B code text lim start z n (pc+1+k) pos I L r):B code text lim start z (n+1) pc pos I L r:=by
 subst h1
 exact fun hd om F w sn N Q hw k=>R.step ((step_mk (size_of h)).trans (XQ (mk code text lim start pc pos hd om I L F w none sn) h)) (hB hd om F w _ N Q (w3 hw) k)
noncomputable def runN(a:Nat→Bool)(text:Array Nat):Nat→Nat→Nat
 |0,_=>0
 |n+1,p=>cond (a (text.getD p 0)) (runN a text n (p+1)+1) 0
theorem Su{i:Nat}{a:Nat→Bool}(ha:∀c sn,∃sn',accepts code i c sn=.ok (a c,sn')):∀(n p found:Nat) (sn:Seen),∃sn',Sre.run code text i n p found sn=.ok (found+runN a text n p,sn')
 |0,p,found,sn=>⟨sn,rfl⟩
 |n+1,p,found,sn=>by
  refine zg (ha (text.getD p 0) sn) fun sn' e=>?_
  unfold Sre.run
  rw[e]
  show∃sn'',(if a (text.getD p 0)=true then Sre.run code text i n (p+1) (found+1) sn' else Except.ok (found,sn'))=_
  unfold runN
  induction q:a (text.getD p 0)using za with
  |true=>
   refine zg (Su ha n (p+1) (found+1) sn') fun sn'' e'=>?_
   exact⟨sn'',by rw[z5 rfl,e',j4];congr 2;lia⟩
  |false=>exact⟨sn',by rw[zR (by simp),jE];rfl⟩
theorem Oc(a:Nat→Bool)(text:Array Nat):∀n p,runN a text n p≤n
 |0,_=>zu _
 |n+1,p=>by
  unfold runN
  induction a (text.getD p 0)using za with
  |true=>exact z3 (Oc a text n (p+1))
  |false=>exact zY _
noncomputable def kp(wh:Bool):Sre.Kept:={whole:=wh}
theorem NS{wh:Bool}{an:Option Bool}:(mk code text lim start pc pos hd om I L F w an sn).keep wh=kp wh:=by
 unfold M.keep kp
 induction wh using za <;>simp[mk]
theorem back_mk{wh:Bool}{an:Option Bool}:(mk code text lim start pc pos hd om I L F w an sn).putBack (kp wh)=mk code text lim start pc pos hd om I L F w an sn:=by
 unfold M.putBack kp
 induction wh using za <;>simp[mk]
theorem Gs{f:Sre.Frame}{t p:Nat}{om':Bool}(hf:f.kept.marks.size=0)(hw:w+1≤16777216):(mk code text lim start pc pos hd om I L F w none sn).attempt f t p om'=mk code text lim start t p p om' I L (f::F) (w+1) none sn:=by
 unfold M.attempt
 show(if w+1+f.kept.marks.size >16777216 then _ else _)=_
 rw[hf,zR (by lia)]
 rfl
noncomputable def gb(pc pos:Nat)(om:Bool)(n:Nat)(wh:Bool):Sre.Frame:={wait:=.giveBack,pc,pos,outermost:=om,count:=n,kept:=kp wh}
theorem KE{n:Nat}{wh:Bool}(hw:w+1≤16777216):(mk code text lim start pc pos hd om I L F w none sn).afterRun .giveBack (n:Int) (kp wh)=mk code text lim start (pc+1+code.getD (pc+1) 0) pos pos om I L (gb pc pos om n wh::F) (w+1) none sn:=by
 unfold M.afterRun
 rw[Gs (by rfl) hw]
 rfl
theorem XR(m:M)(h:m.word 0=24):m.exec=
  if((m.word 2:Nat):Int) >(m.lim:Int) - m.pos then({m with seen:=m.seen.add 24}:M).say false else
   match Sre.run m.code m.text (m.pc+4) (min (m.word 3) ((m.lim:Int) - m.pos).toNat) m.pos 0 ((m.seen.add 24).add (m.word 4))with
   | .error why=>({m with seen:=m.seen.add 24}:M).stick why
   | .ok (n,seen)=>if n < m.word 2 then({m with seen}:M).say false else({m with seen,pos:=m.pos+n}:M).afterRun .giveBack n (M.keep {m with seen,pos:=m.pos+n} m.inner.isSome):=by
 unfold M.exec
 rw[h]
 rfl
theorem Vb{a l m r:Nat}(h:(a:Int) >(l:Int) - (m:Int))(hp:m≤l)(hr:r≤l - m):¬a≤r:=by lia
theorem LH(h:code.getD pc 0=24){least most:Nat}(h2:code.getD (pc+2) 0=least)(h3:code.getD (pc+3) 0=most){a:Nat→Bool}(ha:∀c sn,∃sn',accepts code (pc+4) c sn=.ok (a c,sn'))(hp:pos≤lim)(hw:w+1≤16777216):
  ∃sn',(mk code text lim start pc pos hd om I L F w none sn).exec=(if least≤runN a text (min most (lim - pos)) pos then
   mk code text lim start (pc+1+code.getD (pc+1) 0) (pos+runN a text (min most (lim - pos)) pos) (pos+runN a text (min most (lim - pos)) pos) om I L (gb pc (pos+runN a text (min most (lim - pos)) pos) om (runN a text (min most (lim - pos)) pos) I.isSome::F) (w+1) none sn'
   else mk code text lim start pc pos hd om I L F w (some false) sn'):=by
 have e:(mk code text lim start pc pos hd om I L F w none sn).word 0=24:=h
 have e2:(mk code text lim start pc pos hd om I L F w none sn).word 2=least:=h2
 have e3:(mk code text lim start pc pos hd om I L F w none sn).word 3=most:=h3
 have hr:((lim:Int) - (pos:Int)).toNat=lim - pos:=by lia
 rw[XR _ e,e2,e3]
 show∃sn',(if(least:Int) >(lim:Int) - (pos:Int)then mk code text lim start pc pos hd om I L F w (some false) (sn.add 24)else
  match Sre.run code text (pc+4) (min most ((lim:Int) - (pos:Int)).toNat) pos 0 ((sn.add 24).add (code.getD (pc+4) 0))with
  | .error why=>(mk code text lim start pc pos hd om I L F w none (sn.add 24)).stick why
  | .ok (n,seen)=>if n < least then mk code text lim start pc pos hd om I L F w (some false) seen else(mk code text lim start pc (pos+n) hd om I L F w none seen).afterRun .giveBack n (M.keep (mk code text lim start pc (pos+n) hd om I L F w none seen) I.isSome))=_
 rw[hr]
 refine zg (Su (text:=text) ha (min most (lim - pos)) pos 0 ((sn.add 24).add (code.getD (pc+4) 0))) fun sn' er=>?_
 have hle:=Oc a text (min most (lim - pos)) pos
 by_cases hroom:(least:Int) >(lim:Int) - (pos:Int)
 ·refine⟨sn.add 24,?_⟩
  rw[z5 hroom,zR (Vb hroom hp (zp hle (Nat.min_le_right _ _)))]
 ·refine⟨sn',?_⟩
  rw[zR hroom,er,jr]
  simp only
  by_cases hn:runN a text (min most (lim - pos)) pos < least
  ·rw[z5 hn,zR (by lia)]
  ·rw[zR hn,z5 (by lia),NS]
   exact KE hw
theorem OE(h:code.getD pc 0=24){least most skip N e:Nat}(h1:code.getD (pc+1) 0=skip)(h2:code.getD (pc+2) 0=least)(h3:code.getD (pc+3) 0=most){a:Nat→Bool}(ha:∀c sn,∃sn',accepts code (pc+4) c sn=.ok (a c,sn'))(hp:pos≤lim)
  (hN:runN a text (min most (lim - pos)) pos=N) (hl:least≤N) (hB:B code text lim start z n (pc+1+skip) (pos+N) I L (some e)):B code text lim start z (n+2) pc pos I L (some e):=by
 subst h1;subst hN
 intro hd om F w sn N Q hw k
 refine zg (LH (text:=text) (lim:=lim) (start:=start) (pos:=pos) (hd:=hd) (om:=om) (I:=I) (L:=L) (F:=F) (sn:=sn) h h2 h3 ha hp (w:=w) (w1 hw)) fun sn' e=>?_
 rw[z5 hl]at e
 exact R.step ((step_mk (size_of h)).trans e) (R.sw (hB _ om _ (w+1) sn' (N+1) Q (w3 (w2 hw)) fun _ _ _ _ _ _ _ h4 h5=>R.step (BW _ rfl _) (k _ _ _ _ _ _ _ h4 h5)))
theorem Iw{least j:Nat}{wh:Bool}(h2:code.getD (pc+2) 0=least)(hw:w+1≤16777216):M.resume (mk code text lim start pc (pos+j) hd om I L F w none sn) (gb pc (pos+j) om j wh) false=
  if least < j then mk code text lim start (pc+1+code.getD (pc+1) 0) (pos+(j - 1)) (pos+(j - 1)) om I L (gb pc (pos+(j - 1)) om (j - 1) wh::F) (w+1) none sn else mk code text lim start pc (pos+j) hd om I L F w (some false) sn:=by
 show(if(j:Int) - 1 < ((code.getD (pc+2) 0:Nat):Int)then((mk code text lim start pc (pos+j) hd om I L F w none sn).putBack (kp wh)).say false else M.afterRun {(mk code text lim start pc (pos+j) hd om I L F w none sn).putBack (kp wh)with pos:=pos+j - 1} .giveBack ((j:Int) - 1) (kp wh))=_
 rw[h2,back_mk]
 by_cases hj:least < j
 ·rw[zR (by lia),z5 hj]
  have e1:(j:Int) - 1=((j - 1:Nat):Int):=by lia
  have e2:pos+j - 1=pos+(j - 1):=by lia
  rw[e1,e2]
  exact KE hw
 ·rw[z5 (by lia),zR hj];rfl
theorem Sj{least c:Nat}{wh:Bool}(h2:code.getD (pc+2) 0=least)(hw:w+1+c≤16777216)(j:Nat):∀(n:Nat),B code text lim start z n (pc+1+code.getD (pc+1) 0) (pos+j) I L none→(∀i,least≤i→i < j→B code text lim start z c (pc+1+code.getD (pc+1) 0) (pos+i) I L none)→w+1+n≤16777216→∀om sn,Go code text lim start z I L none F w N Q→
  R (N+j*(c+1)+1+n) (mk code text lim start (pc+1+code.getD (pc+1) 0) (pos+j) (pos+j) om I L (gb pc (pos+j) om j wh::F) (w+1) none sn) Q:=by
 induction j with
 |zero=>
  intro n hN _ hn om sn k
  refine hN _ om _ (w+1) sn _ Q hn fun pc' hd' pos' om' I' L' sn' _ h5=>?_
  refine Aw (h5 (.inl rfl)) fun h6 h7=>?_
  rw[h6,h7]
  refine R.step ((BW _ rfl _).trans ((Iw h2 (Nat.le_of_add_right_le hw)).trans (zR (jy _)))) ?_
  exact k.no.mono (zB _ _)
 |succ j ih=>
  intro n hN hB hn om sn k
  refine hN _ om _ (w+1) sn _ Q hn fun pc' hd' pos' om' I' L' sn' _ h5=>?_
  refine Aw (h5 (.inl rfl)) fun h6 h7=>?_
  rw[h6,h7]
  refine R.step ((BW _ rfl _).trans (Iw h2 (Nat.le_of_add_right_le hw))) ?_
  by_cases hl:least < j+1
  ·rw[z5 hl]
   refine R.cast (ih c (hB j (Je hl) (zS j)) (fun i a b=>hB i a (jF b)) hw om sn' k) ?_
   rw[Nat.succ_mul,zO,zO,jH 1 c]
  ·rw[zR hl]
   exact k.no.mono (zB _ _)
theorem Qj(h:code.getD pc 0=24){least most skip N c K:Nat}(h1:code.getD (pc+1) 0=skip)(h2:code.getD (pc+2) 0=least)(h3:code.getD (pc+3) 0=most){a:Nat→Bool}(ha:∀c sn,∃sn',accepts code (pc+4) c sn=.ok (a c,sn'))(hp:pos≤lim)
  (hN:runN a text (min most (lim - pos)) pos=N) (hT:least≤N→B code text lim start z n (pc+1+skip) (pos+N) I L none) (hB:∀i,least≤i→i < N→B code text lim start z c (pc+1+skip) (pos+i) I L none) (hK:n+c+3+N*(c+1)≤K):B code text lim start z K pc pos I L none:=by
 subst h1;subst hN
 refine B.mono (n:=n+c+3+runN a text (min most (lim - pos)) pos*(c+1)) ?_ hK
 intro hd om F w sn N Q hw k
 refine zg (LH (text:=text) (lim:=lim) (start:=start) (pos:=pos) (hd:=hd) (om:=om) (I:=I) (L:=L) (F:=F) (sn:=sn) h h2 h3 ha hp (w:=w) (by lia)) fun sn' e=>?_
 refine R.mono (a:=N+runN a text (min most (lim - pos)) pos*(c+1)+1+n+1) (R.step ((step_mk (size_of h)).trans e) ?_) (by lia)
 by_cases hl:least≤runN a text (min most (lim - pos)) pos
 ·rw[z5 hl]
  exact Sj h2 (by lia) _ n (hT hl) hB (by lia) om sn' k
 ·rw[zR hl]
  exact k.no.mono (zp (zB _ _) (zp (zB _ 1) (zB _ n)))
noncomputable def br(alt pos:Nat)(om:Bool)(wh:Bool):Sre.Frame:={wait:=.nextBranch,pc:=alt,pos,outermost:=om,kept:=kp wh}
theorem PZ{alt:Nat}{wh:Bool}(hw:w+1≤16777216):(mk code text lim start pc pos hd om I L F w none sn).alternative alt (kp wh)=
  if code.getD alt 0=0 then mk code text lim start pc pos hd om I L F w (some false) sn else mk code text lim start (alt+1) pos pos om I L (br alt pos om wh::F) (w+1) none sn:=by
 unfold M.alternative
 show(if(code.getD alt 0==0)=true then _ else _)=_
 by_cases h:code.getD alt 0=0
 ·rw[h];rfl
 ·rw[zR (by simpa using h),zR h]
  exact Gs rfl hw
section
variable (code text:Array Nat)(lim:Nat)(start:SP)
noncomputable def A(z:Bool)(n alt pos:Nat)(I:Option Nat)(L:Array Loop)(r:Option Nat):Prop:=
 ∀pc hd om F w sn wh N Q,w+n+1≤16777216→Go code text lim start z I L r F w N Q→R (N+n) ((mk code text lim start pc pos hd om I L F w none sn).alternative alt (kp wh)) Q
end
theorem A.mono{n' alt:Nat}(h:A code text lim start z n alt pos I L r)(l:n≤n'):A code text lim start z n' alt pos I L r:=
 fun pc hd om F w sn wh N Q hw k=>(h pc hd om F w sn wh N Q (zp (z3 (je l w)) hw) k).mono (je l N)
theorem ay{alt:Nat}(h:code.getD alt 0=0):A code text lim start z 0 alt pos I L none:=by
 intro pc hd om F w sn wh N Q hw k
 rw[PZ hw,z5 h]
 exact k.no
theorem KH{alt k:Nat}{wh:Bool}(h:code.getD alt 0=k+1)(hw:w+1≤16777216):(mk code text lim start pc pos hd om I L F w none sn).alternative alt (kp wh)=mk code text lim start (alt+1) pos pos om I L (br alt pos om wh::F) (w+1) none sn:=
 (PZ hw).trans (zR (by rw[h];exact jL k))
theorem az{alt e k:Nat}(h:code.getD alt 0=k+1)(hB:B code text lim start z n (alt+1) pos I L (some e)):A code text lim start z (n+1) alt pos I L (some e):=by
 intro pc hd om F w sn wh N Q hw k
 rw[KH h (w1 (n:=n+1) (w:=w) hw)]
 exact R.sw (hB _ om _ (w+1) sn (N+1) Q (w3 (w2 (n:=n+1) (w:=w) hw)) fun _ _ _ _ _ _ _ h4 h5=>R.step (BW _ rfl _) (k _ _ _ _ _ _ _ h4 h5))
theorem PW{alt k n':Nat}(h:code.getD alt 0=k+1)(hB:B code text lim start z n (alt+1) pos I L none)(hA:A code text lim start z n' (alt+(k+1)) pos I L r):A code text lim start z (n+(n'+1)) alt pos I L r:=by
 intro pc hd om F w sn wh N Q hw k
 rw[KH h (by lia)]
 refine R.cast (hB _ om _ (w+1) sn (N+n'+1) Q (by lia) fun pc' hd' pos' om' I' L' sn' _ h5=>?_) (by lia)
 refine Aw (h5 (.inl rfl)) fun h6 h7=>?_
 rw[h6,h7]
 refine R.step (m':=(mk code text lim start alt pos hd' om I L F w none sn').alternative (alt+code.getD alt 0) (kp wh)) ((BW (br alt pos om wh) rfl _).trans (zy (fun m:M=>m.alternative (alt+code.getD alt 0) (kp wh)) back_mk)) ?_
 rw[h]
 exact hA alt hd' om F w sn' wh N Q (by lia) k
theorem a8(m:M)(h:m.word 0=7):m.exec=({m with seen:=m.seen.add 7}:M).alternative (m.pc+1) (M.keep {m with seen:=m.seen.add 7} m.inner.isSome):=by
 unfold M.exec
 rw[h]
 rfl
theorem Qg(h:code.getD pc 0=7)(hA:A code text lim start z n (pc+1) pos I L r):B code text lim start z (n+1) pc pos I L r:=fun hd om F w sn N Q hw k=>
 R.step ((step_mk (size_of h)).trans ((a8 (mk code text lim start pc pos hd om I L F w none sn) h).trans (zy (M.alternative (mk code text lim start pc pos hd om I L F w none (sn.add 7)) (pc+1)) NS))) (hA pc hd om F w _ _ N Q hw k)
noncomputable def Eb(text:Array Nat)(lim pos:Nat):Bool:=lim !=0 && ((decide (pos >0) && isWordUni (text.getD (pos - 1) 0)) !=(decide (pos < lim) && isWordUni (text.getD pos 0)))==true
theorem Wo(m:M)(h:m.word 0=6):m.exec=match m.isAt (m.word 1)with
  | .error why=>({m with seen:=m.seen.add 6}:M).stick why
  | .ok yes=>if yes then{m with seen:=(m.seen.add 6).add (43+m.word 1),pc:=m.pc+2}else({m with seen:=(m.seen.add 6).add (43+m.word 1)}:M).say false:=by
 unfold M.exec
 rw[h]
 rfl
theorem H2(h:code.getD pc 0=6)(h1:code.getD (pc+1) 0=10):∃sn',(mk code text lim start pc pos hd om I L F w none sn).step=cond (Eb text lim pos) (mk code text lim start (pc+2) pos hd om I L F w none sn') (mk code text lim start pc pos hd om I L F w (some false) sn'):=by
 refine⟨(sn.add 6).add (43+10),(step_mk (size_of h)).trans ((Wo (mk code text lim start pc pos hd om I L F w none sn) h).trans ?_)⟩
 have e:(mk code text lim start pc pos hd om I L F w none sn).word 1=10:=h1
 rw[e]
 show(if Eb text lim pos=true then _ else _)=_
 induction Eb text lim pos using za <;>rfl
theorem Xa(h:code.getD pc 0=6)(h1:code.getD (pc+1) 0=10)(he:Eb text lim pos=true)(hB:B code text lim start z n (pc+2) pos I L r):B code text lim start z (n+1) pc pos I L r:=fun hd om F w sn N Q hw k=>
 zg (H2 h h1) fun sn' e=>R.step (e.trans (by rw[he];rfl)) (hB hd om F w sn' N Q (w3 hw) k)
theorem OD(h:code.getD pc 0=6)(h1:code.getD (pc+1) 0=10)(he:Eb text lim pos=false):B code text lim start z 1 pc pos I L none:=fun hd om F w sn N Q hw k=>
 zg (H2 (pos:=pos) (hd:=hd) (om:=om) (I:=I) (L:=L) (F:=F) (w:=w) (sn:=sn) h h1) fun sn' e=>R.step (e.trans (by rw[he];rfl)) k.no
end
end
section
open PySem PySem.W PySem.Calls PyProof.Rows Builtin Builtin.Re
open Sre
theorem step_done{m:M}(h:m.outcome.isSome=true):m.step=m:=by
 unfold M.step
 rw[z5 h]
theorem C3:∀(n:Nat) {m:M},m.outcome.isSome=true→iter n m=m
 |0,_,_=>rfl
 |n+1,m,h=>by
  show iter n m.step=m
  rw[step_done h,C3 n h]
theorem FT:∀(n:Nat) (m:M),M.runFor n m=iter n m
 |0,_=>rfl
 |n+1,m=>by
  show(if m.outcome.isSome=true then m else M.runFor n m.step)=iter n m.step
  by_cases h:m.outcome.isSome=true
  ·rw[z5 h,step_done h,C3 n h]
  ·rw[zR h,FT n]
section
variable {prog:Program}{w:World}{A:Around}{s:Shared}{Ev:Value→Shared→Prop}
theorem L4:∀(turns k:Nat) (m:M) (Q:M→Shared→Prop),k < 4*turns→(iter k m).outcome.isSome=true→Q (iter k m) s→wpAny (model prog w) A (reDrive turns m) Q Ev s
 |0,k,m,Q,hk,_,_=>absurd hk (by lia)
 |turns+1,k,m,Q,hk,ho,hq=>by
  unfold reDrive
  show wpAny _ _ (if(M.runFor reTurnSteps m).outcome.isSome=true then _ else _) _ _ _
  rw[FT]
  have e4:reTurnSteps=4:=rfl
  rw[e4]
  by_cases h:(iter 4 m).outcome.isSome=true
  ·rw[z5 h]
   refine zF ?_
   have:iter 4 m=iter k m:=by
    rcases Nat.le_total k 4 with h1 |h1
    ·refine zg (JG h1) fun j e=>?_
     rw[←e,DH,C3 j ho]
    ·refine zg (JG h1) fun j e=>?_
     rw[←e,DH,C3 j h]
   rw[this];exact hq
  ·rw[zR h]
   have h1:4 < k:=by
    apply Jq
    intro hc
    refine zg (JG (show k≤4 by lia)) fun j e=>?_
    apply h
    rw[←e,DH,C3 j ho];exact ho
   refine zg (JG (Jm h1)) fun j e=>?_
   rw[←e,DH]at ho hq
   exact zj (wpAny_rule (L4 turns j (iter 4 m) Q (by lia) ho hq))
theorem Oq{M':Model}{β:Type}{f:β→PUnit→Sem (ForInStep PUnit)}(hf:∀b (Q:ForInStep PUnit→Shared→Prop),Q (.yield ⟨⟩) s→wpAny M' A (f b ⟨⟩) Q Ev s){Q:PUnit→Shared→Prop}(h:Q ⟨⟩ s):∀l:List β,wpAny M' A (forIn l (⟨⟩:PUnit) f) Q Ev s
 |[]=>by rw[List.forIn_nil];exact zF h
 |b::l=>by
  rw[Jc]
  exact zj (hf b _ (Oq hf h l))
end
end
section
open PySem PySem.W PySem.Calls PyProof.Rows Builtin Builtin.Re
section
variable {prog:Program}{w:World}{A:Around}{s:Shared}{Ev:Value→Shared→Prop}
noncomputable abbrev G3(p0 fl:Value)(ct:Addr)(sl:Array (Option Value)):Obj:=⟨.type "re.Pattern",none,.fields #[p0,fl,rawInt 0,.none,.none,.ref ct,rawInt 0],sl⟩
theorem L6{p:Nat}{u:Tok}(hp:p≤AJ){Q:Int→Shared→Prop}(h:Q (p:Int) s):wpAny (model prog w) A (reSsize (.int (.ofNat p) u)) Q Ev s:=by
 unfold reSsize asIndex
 refine zj (zj (m:=asInt? (.int (.ofNat p) u)) (zF ?_))
 refine zF ?_
 have hL:=Bk
 have e:Int.ofNat p=(p:Int):=rfl
 have hd:(decide (Int.ofNat p < -(2 ^ 63)) || decide (Int.ofNat p≥2 ^ 63))=false:=by
  rw[JC,e]
  refine⟨zU ?_,zU ?_⟩
  ·have:(0:Int)≤2 ^ 63:=by decide
   lia
  ·have:(16777216:Int) < 2 ^ 63:=by decide
   lia
 show wpAny _ _ (if(decide (Int.ofNat p < -(2 ^ 63)) || decide (Int.ofNat p≥2 ^ 63))=true then _ else _) _ _ _
 rw[hd]
 exact zF h
theorem E6(codes:Array Nat):Array.map (fun x=>x.toNat) (Array.map reRawOf ((some (Array.map (fun w:Nat=>rawInt (w:Int)) codes)).getD #[]))=codes:=by
 simp[reRawOf,rawInt,Function.comp_def]
theorem NW{n:Nat}(h:n≤AJ):Min.min (2 ^ 63 - 1:Int).toNat n=n:=by
 have hL:=Bk
 have:(16777216:Int) < 2 ^ 63 - 1:=by decide
 exact JI (by lia)
variable {pat ct:Addr}{p0 fl:Value}{sl sl2:Array (Option Value)}{codes:Array Nat}{n:Nat}{t:Txt}{tk u u':Tok}{id nm:String}
theorem Nb(hp:s.heap.get? pat=some (G3 p0 fl ct sl))
  (hc:s.heap.get? ct=some ⟨.type "tuple",none,.seq (codes.map fun w:Nat=>rawInt w) n,sl2⟩) {Q:ReTarget→Shared→Prop}
  (h:Q {pattern:=.ref pat,string:=.str ⟨t.toArray⟩ tk,code:=codes,text:=t.toArray,kind:=0,groups:=0,pos:=0,lim:=t.length} s) (hl:t.length≤AJ):
  wpAny (model prog w) A (reTarget id nm ⟨[.ref pat,.str ⟨t.toArray⟩ tk],[]⟩) Q Ev s:=by
 unfold reTarget reNamed
 repeat (any_goals (first |assumption |wp_step))
 have e2:(fun i:Int=>Min.min i.toNat (⟨t.toArray⟩:Str).cps.size) (2 ^ 63 - 1)=t.length:=by
  show Min.min _ t.toArray.size=_
  rw[zL];exact NW hl
 have e3:(fun i:Int=>Min.min i.toNat (⟨t.toArray⟩:Str).cps.size) 0=0:=Jj _
 rw[E6,e2,e3]
 exact h
theorem Nc{p:Nat}(hp:s.heap.get? pat=some (G3 p0 fl ct sl))
  (hc:s.heap.get? ct=some ⟨.type "tuple",none,.seq (codes.map fun w:Nat=>rawInt w) n,sl2⟩) {Q:ReTarget→Shared→Prop}
  (h:Q {pattern:=.ref pat,string:=.str ⟨t.toArray⟩ tk,code:=codes,text:=t.toArray,kind:=0,groups:=0,pos:=p,lim:=t.length} s) (hl:t.length≤AJ) (hpl:p≤t.length):
  wpAny (model prog w) A (reTarget id nm ⟨[.ref pat,.str ⟨t.toArray⟩ tk,.int (.ofNat p) u],[]⟩) Q Ev s:=by
 unfold reTarget reNamed
 repeat (any_goals (first |assumption |((with_reducible show wpAny _ _ (reSsize _) _ _ _);refine L6 (zp hpl hl) ?_) |wp_step))
 have e2:(fun i:Int=>Min.min i.toNat (⟨t.toArray⟩:Str).cps.size) (2 ^ 63 - 1)=t.length:=by
  show Min.min _ t.toArray.size=_
  rw[zL];exact NW hl
 have e3:(fun i:Int=>Min.min i.toNat (⟨t.toArray⟩:Str).cps.size) (p:Int)=p:=by
  show Min.min (p:Int).toNat t.toArray.size=_
  rw[zL];exact jz hpl
 rw[E6,e2,e3]
 exact h
theorem Nd{p q:Nat}(hp:s.heap.get? pat=some (G3 p0 fl ct sl))
  (hc:s.heap.get? ct=some ⟨.type "tuple",none,.seq (codes.map fun w:Nat=>rawInt w) n,sl2⟩) {Q:ReTarget→Shared→Prop}
  (h:Q {pattern:=.ref pat,string:=.str ⟨t.toArray⟩ tk,code:=codes,text:=t.toArray,kind:=0,groups:=0,pos:=p,lim:=q} s) (hl:t.length≤AJ) (hpl:p≤t.length) (hql:q≤t.length):
  wpAny (model prog w) A (reTarget id nm ⟨[.ref pat,.str ⟨t.toArray⟩ tk,.int (.ofNat p) u,.int (.ofNat q) u'],[]⟩) Q Ev s:=by
 unfold reTarget reNamed
 repeat (any_goals (first |assumption |((with_reducible show wpAny _ _ (reSsize _) _ _ _);refine L6 (by first |exact zp hpl hl |exact zp hql hl) ?_) |wp_step))
 have e2:(fun i:Int=>Min.min i.toNat (⟨t.toArray⟩:Str).cps.size) (q:Int)=q:=by
  show Min.min (q:Int).toNat t.toArray.size=_
  rw[zL];exact jz hql
 have e3:(fun i:Int=>Min.min i.toNat (⟨t.toArray⟩:Str).cps.size) (p:Int)=p:=by
  show Min.min (p:Int).toNat t.toArray.size=_
  rw[zL];exact jz hpl
 rw[E6,e2,e3]
 exact h
theorem L5{b pos lim e:Nat}{st:Value}{m:Sre.M}(g:m.outcome=some .matched∧m.handed=e∧m.start=b∧m.marks= #[]∧m.lastmark= -1∧m.lastindex= -1){Q:Value→Shared→Prop}(h:Q (.ref (s.heap.objs.size+1)) {s with heap:=(s.heap.push (seqObj true [rawInt b,rawInt e] 0)).push (EW st (.ref pat) pos lim (-1) s.heap.objs.size)}):
  wpAny (model prog w) A (reNewMatch (.ref pat) st 0 pos lim m) Q Ev s:=by
 refine Z9 g fun _ g1 g2 g3 g4 g5=>?_
 unfold reNewMatch newFields newTuple
 rw[g1,g2,g5]
 repeat (any_goals (first |assumption |wp_step))
 have e1:∀g:Nat→List Value,List.flatMap g (List.range 0)=[]:=fun _=>rfl
 have e2:∀o,(s.heap.push o).objs.size=s.heap.objs.size+1:=fun o=>by simp[Heap.push]
 rw[e1,e2]
 exact h
end
theorem Fo:Manifest.owners.lookup (String.ofList ['n','r','e','t','t','a','P','.','e','r'].reverse)=some Manifest.sig_re_Pattern:=by kernel_rfl
structure PT(K:Frag)(pat:Addr)(codes:Array Nat):Prop where
 at_:∃p0 fl ct sl sl2 n,K.lookup pat=some (G3 p0 fl ct sl)∧K.lookup ct=some ⟨.type "tuple",none,.seq (codes.map fun w:Nat=>rawInt w) n,sl2⟩
end
section
open PySem PySem.W PySem.Calls PyProof.Rows Builtin Builtin.Re
section
variable {c:Cx}{S:Sx}
inductive HP:List Val→Txt→Nat→Nat→Prop
 |one (t:Txt):HP [.str t] t 0 t.length
 |two (t:Txt) (p:Nat) (h:p≤t.length):HP [.str t,.int (.ofNat p)] t p t.length
 |three (t:Txt) (p q:Nat) (h:p≤t.length) (h':q≤t.length):HP [.str t,.int (.ofNat p),.int (.ofNat q)] t p q
theorem M7{R:Rec}{h:Heap}{i:Int}{v:Value}(x:VH c R h (.int i) v):∃t,v=.int i t:=by
 cases x with |of y=>cases y;exact⟨_,rfl⟩
theorem M8{R:Rec}{h:Heap}{t:Txt}{v:Value}(x:VH c R h (.str t) v):∃tk,v=.str ⟨t.toArray⟩ tk∧t.length≤AJ:=by
 cases x with |of y=>cases y with |str _ tk hl=>exact⟨_,rfl,hl⟩
theorem VI:isSubtype (.type "re.Pattern") (.type "module")=pure false:=by rw[zN];kernel_rfl
theorem RY{p0 fl:Value}{ct:Addr}{sl:Array (Option Value)}:∀cd,(G3 p0 fl ct sl).data≠ .cls cd:=fun _ h=>by cases h
end
end
section
open PySem PySem.Sre
noncomputable def fL(code:Array Nat)(n i c:Nat)(yes b:Bool):Prop:=∀f sn,∃sn',inSet code c (f+n) i yes sn=.ok (b,sn')
section
variable {code:Array Nat}{n i c v:Nat}{yes b:Bool}
theorem Yc(h:code.getD i 0=0):fL code 1 i c yes (!yes):=by
 intro f sn
 conv=>enter [1,sn',1];whnf;dsimp only[JK]
 refine h.symm▸?_
 exact⟨_,rfl⟩
theorem Q7(h:code.getD i 0=16)(h1:code.getD (i+1) 0=v)(hn:fL code n (i+2) c yes b):fL code (n+1) i c yes (cond (c==v) yes b):=by
 subst h1
 intro f sn
 rw[←zO]
 conv=>enter [1,sn',1];whnf;dsimp only[JK]
 refine h.symm▸?_
 show∃sn',(if(c==code.getD (i+1) 0)=true then _ else _)=_
 induction(c==code.getD (i+1) 0)using za with
 |true=>exact⟨_,rfl⟩
 |false=>exact hn f _
noncomputable def Acc(code:Array Nat)(pc:Nat)(a:Nat→Bool):Prop:=∀c sn,∃sn',accepts code pc c sn=.ok (a c,sn')
theorem WX{pc:Nat}{a:Nat→Bool}(h:code.getD pc 0=13)(hn:∀c,fL code n (pc+2) c true (a c))(hs:n≤code.size):Acc code pc a:=by
 intro c sn
 unfold accepts
 rw[h]
 show∃sn',inSet code c code.size (pc+2) true sn=_
 refine zg (JG hs) fun f e=>?_
 rw[←e,jH]
 exact hn c f sn
theorem IR{pc:Nat}(h:code.getD pc 0=16)(h1:code.getD (pc+1) 0=v):Acc code pc (fun c=>c==v):=by
 intro c sn
 unfold accepts
 rw[h,h1]
 exact⟨_,rfl⟩
end
end
section
open PySem PySem.Sre
noncomputable def BC(a:Nat→Bool):Txt→Nat
 |[]=>0
 |c::r=>cond (a c) (BC a r+1) 0
theorem Oj{a:Nat→Bool}{c:Nat}{r:Txt}(h:a c=true):BC a (c::r)=BC a r+1:=by
 show cond (a c) _ _=_
 rw[h];rfl
theorem Oi{a:Nat→Bool}{c:Nat}{r:Txt}(h:a c=false):BC a (c::r)=0:=by
 show cond (a c) _ _=_
 rw[h];rfl
theorem LQ(a:Nat→Bool)(s:Txt):BC a s≤s.length:=by
 induction s with
 |nil=>exact zu _
 |cons c r ih=>induction h:a c using za with
  |true=>rw[Oj h];exact z3 ih
  |false=>rw[Oi h];exact zY _
theorem SI{a:Nat→Bool}{s:Txt}:∀{i:Nat},i < BC a s→∃c r,s.drop i=c::r∧a c=true:=by
 induction s with
 |nil=>exact fun h=>absurd h (jy _)
 |cons c r ih=>
  intro i h
  induction q:a c using za with
  |false=>rw[Oi q]at h;exact absurd h (jy _)
  |true=>
   rw[Oj q]at h
   induction i using zz with
   |zero=>exact⟨c,r,rfl,q⟩
   |succ i=>exact ih (jG h)
structure Pt(t:Txt)(lim pos:Nat)(s:Txt):Prop where
 le:pos≤lim
 lt:lim≤t.length
 eq:(t.take lim).drop pos=s
 few:t.length≤100000
section
variable {t s r:Txt}{lim pos c:Nat}
theorem Pt.len(h:Pt t lim pos s):s.length=lim - pos:=by
 rw[←h.eq,jC,ji,jz h.lt]
theorem Pt.cons(h:Pt t lim pos (c::r)):pos < lim∧t.toArray.getD pos 0=c∧Pt t lim (pos+1) r:=by
 have hlt:pos < lim:=Nat.lt_of_sub_pos (by rw[←h.len];exact jO _)
 have hg:(t.take lim)[pos]? =some c:=List.head?_drop.symm.trans (zy List.head? h.eq)
 rw[List.getElem?_take_of_lt hlt]at hg
 exact⟨hlt,by rw[Jf,z8,hg];rfl,hlt,h.lt,by rw[←j0,h.eq];rfl,h.few⟩
theorem Pt.nil(h:Pt t lim pos []):pos=lim:=jJ h.le (JN h.len.symm)
theorem Pt.drop(h:Pt t lim pos s){k:Nat}(hk:k≤s.length):Pt t lim (pos+k) (s.drop k):=
 ⟨Jx h.le (h.len▸hk),h.lt,by rw[←j0,h.eq],h.few⟩
theorem Pt.run(a:Nat→Bool):∀{pos:Nat},Pt t lim pos s→runN a t.toArray (lim - pos) pos=BC a s:=by
 induction s with
 |nil=>
  intro pos h
  rw[h.nil,jl];rfl
 |cons c r ih=>
  intro pos h
  refine Bx h.cons fun h1 h2 h3=>?_
  rw[show lim - pos=lim - (pos+1)+1 from h.len.symm.trans (zy Nat.succ h3.len)]
  show cond (a (t.toArray.getD pos 0)) (runN a t.toArray (lim - (pos+1)) (pos+1)+1) 0=cond (a c) (BC a r+1) 0
  rw[h2,ih h3]
theorem Pt.runM(a:Nat→Bool)(h:Pt t lim pos s):runN a t.toArray (min 4294967295 (lim - pos)) pos=BC a s:=by
 rw[JI (zp (j9 _ _) (zp h.lt (zp h.few (by decide))))];exact h.run a
end
section
variable {z:Bool}{code:Array Nat}{t s:Txt}{lim pc pos n:Nat}{start:SP}{I:Option Nat}{L:Array Loop}{r:Option Nat}{a:Nat→Bool}
theorem WG(h:FM (code.getD pc 0)=true)(ha:Acc code pc a){c:Nat}{s:Txt}(hp:Pt t lim pos (c::s))(hy:a c=true){k:Nat}(hw:itemWidth code pc=k)(hB:B code t.toArray lim start z n (pc+k) (pos+1) I L r):B code t.toArray lim start z (n+1) pc pos I L r:=by
 refine Bx hp.cons fun h1 h2 h3=>?_
 exact aH h ha h1 (by rw[h2];exact hy) hw hB
theorem i6(h:FM (code.getD pc 0)=true)(ha:Acc code pc a)(hp:Pt t lim pos s)(hy:∀c r,s=c::r→a c=false):B code t.toArray lim start z 1 pc pos I L none:=by
 refine Qi h ha fun hl=>?_
 induction s using zo with
 |nil=>exact absurd hp.nil (j5 hl)
 |cons c s=>
  refine Bx hp.cons fun h1 h2 h3=>?_
  rw[h2];exact hy c s rfl
theorem dN(h:code.getD pc 0=24){least skip e:Nat}(h1:code.getD (pc+1) 0=skip)(h2:code.getD (pc+2) 0=least)(h3:code.getD (pc+3) 0=4294967295)(ha:Acc code (pc+4) a)(hp:Pt t lim pos s)(hl:least≤BC a s)
  (hB:B code t.toArray lim start z n (pc+1+skip) (pos+BC a s) I L (some e)):B code t.toArray lim start z (n+2) pc pos I L (some e):=
 OE h h1 h2 h3 ha hp.le (hp.runM a) hl hB
theorem RV(h:code.getD pc 0=24){least skip c K:Nat}(h1:code.getD (pc+1) 0=skip)(h2:code.getD (pc+2) 0=least)(h3:code.getD (pc+3) 0=4294967295)(ha:Acc code (pc+4) a)(hp:Pt t lim pos s)
  (hT:least≤BC a s→B code t.toArray lim start z n (pc+1+skip) (pos+BC a s) I L none) (hB:∀i c' r,i < BC a s→s.drop i=c'::r→a c'=true→Pt t lim (pos+i) (c'::r)→B code t.toArray lim start z c (pc+1+skip) (pos+i) I L none) (hK:n+c+3+s.length*(c+1)≤K):B code t.toArray lim start z K pc pos I L none:=by
 have hle:=LQ a s
 refine Qj (N:=BC a s) (c:=c) h h1 h2 h3 ha hp.le (hp.runM a) hT (fun i _ hi=>?_) (zp (je (Nat.mul_le_mul_right _ hle) _) hK)
 refine AH (SI hi) fun c' r e hc=>?_
 have:=hp.drop (k:=i) (by lia)
 rw[e]at this
 exact hB i c' r hi e hc this
noncomputable def To(code:Array Nat):Nat→Txt→Prop
 |_,[]=>True
 |pc,c::r=>code.getD pc 0=16∧code.getD (pc+1) 0=c∧To code (pc+2) r
noncomputable def Rn(code:Array Nat):Nat→Txt→Bool
 |_,[]=>true
 |pc,c::r=>code.getD pc 0==16 && (code.getD (pc+1) 0==c && Rn code (pc+2) r)
theorem Uw{code:Array Nat}{w:Txt}:∀{pc:Nat},Rn code pc w=true→To code pc w:=by
 induction w with
 |nil=>exact fun _=>trivial
 |cons c w ih=>
  intro pc h
  have h:=zH.mp h
  have h2:=zH.mp h.2
  exact⟨eq_of_beq h.1,eq_of_beq h2.1,ih h2.2⟩
theorem bF{pc:Nat}(h:code.getD pc 0=16):itemWidth code pc=2:=by unfold itemWidth;rw[h];rfl
theorem Yj{pc:Nat}(h:code.getD pc 0=16):FM (code.getD pc 0)=true:=by rw[h];rfl
theorem RU{w:Txt}:∀{pc pos:Nat},To code pc w→Pt t lim pos (w++s)→B code t.toArray lim start z n (pc+2*w.length) (pos+w.length) I L r→B code t.toArray lim start z (n+w.length) pc pos I L r:=by
 induction w with
 |nil=>exact fun _ _ hB=>hB
 |cons c w ih=>
  intro pc pos hw hp hB
  refine Bx hw fun h1 h2 h3=>?_
  refine WG (n:=n+w.length) (Yj h1) (IR h1 h2) hp (ju c) (bF h1) (ih h3 hp.cons.2.2 ?_)
  rw[show pc+2+2*w.length=pc+2*(w.length+1) by rw[Nat.mul_succ,jM];rfl,jM pos 1];exact hB
theorem Pg{w:Txt}:∀{s:Txt} {pc pos:Nat},To code pc w→Pt t lim pos s→pre? w s=false→B code t.toArray lim start z w.length pc pos I L none:=by
 induction w with
 |nil=>exact fun _ _ h=>Bool.noConfusion h
 |cons c w ih=>
  intro s pc pos hw hp h
  refine Bx hw fun h1 h2 h3=>?_
  have no:(∀c' r,s=c'::r→(c'==c)=false)→B code t.toArray lim start z (w.length+1) pc pos I L none:=fun g=>(i6 (Yj h1) (IR h1 h2) hp g).mono (JL _ _)
  induction s using zo with
  |nil=>exact no fun _ _ e=>nomatch e
  |cons x s=>
   have h':cond (Nat.beq c x) (pre? w s) false=false:=h
   induction q:Nat.beq c x using za with
   |false=>
    refine no fun c' r e=>?_
    rw[←(jx e).1]
    exact jd.mpr fun e=>by rw[e,jA]at q;exact Bool.noConfusion q
   |true=>
    rw[q]at h'
    cases zw q
    exact WG (n:=w.length) (Yj h1) (IR h1 h2) hp (ju c) (bF h1) (ih h3 hp.cons.2.2 h')
end
end
section
open PySem PySem.Sre
noncomputable def Qm(c:Nat):Bool:=cond (c==32) true (cond (c==9) true false)
end
section
open PySem PySem.Sre
end
section
open PySem PySem.Sre
noncomputable def BD:Array Nat:= #[14,4,0,3,4294967295,6,1,24,11,0,4294967295,13,6,16,32,16,9,0,1,7,13,16,119,16,104,16,105,16,108,16,101,15,173,11,16,101,16,108,16,115,16,101,15,162,9,16,100,16,101,16,102,15,153,15,16,114,16,101,16,116,16,117,16,114,16,110,15,138,15,16,97,16,115,16,115,16,101,16,114,16,116,15,123,13,16,98,16,114,16,101,16,97,16,107,15,110,13,16,99,16,108,16,97,16,115,16,115,15,97,19,16,99,16,111,16,110,16,116,16,105,16,110,16,117,16,101,15,78,11,16,101,16,108,16,105,16,102,15,67,9,16,116,16,114,16,121,15,58,15,16,101,16,120,16,99,16,101,16,112,16,116,15,43,13,16,114,16,97,16,105,16,115,16,101,15,30,15,16,105,16,109,16,112,16,111,16,114,16,116,15,15,13,16,121,16,105,16,101,16,108,16,100,15,2,0,6,10,1]
noncomputable def IE:List Txt:=[[119,104,105,108,101],[101,108,115,101],[100,101,102],[114,101,116,117,114,110],[97,115,115,101,114,116],[98,114,101,97,107],[99,108,97,115,115],[99,111,110,116,105,110,117,101],[101,108,105,102],[116,114,121],[101,120,99,101,112,116],[114,97,105,115,101],[105,109,112,111,114,116],[121,105,101,108,100]]
noncomputable def bol(t:Txt)(p:Nat):Bool:=p==0 || t.toArray.getD (p - 1) 0==10
noncomputable def Kt(t:Txt)(lim:Nat)(r:Txt)(x:Nat):List Txt→Option Nat
 |[]=>none
 |w::ws=>cond (pre? w r && Eb t.toArray lim (x+w.length)) (some (x+w.length)) (Kt t lim r x ws)
noncomputable def Fy(t:Txt)(lim p:Nat):Option Nat:=cond (bol t p) (Kt t lim (((t.take lim).drop p).drop (BC Qm ((t.take lim).drop p))) (p+BC Qm ((t.take lim).drop p)) IE) none
noncomputable def E1(F:Nat→Option Nat):Nat→Nat→Option (Nat×Nat)
 |0,p=>match F p with |some e=>some (p,e) |none=>none
 |n+1,p=>match F p with |some e=>some (p,e) |none=>E1 F n (p+1)
noncomputable def Ck(t:Txt)(p q:Nat):Option (Nat×Nat):=cond (Nat.blt (q - p) 3) none (E1 (Fy t q) (max p (q - 2) - p) p)
section
variable {code text:Array Nat}{lim pc pos hd w N n:Nat}{start:SP}{om z:Bool}{I:Option Nat}{L:Array Loop}{F:List Sre.Frame}{sn:Seen}{r:Option Nat}{Q:M→Prop}
theorem KO{t:Txt}(h:code.getD pc 0=6)(h1:code.getD (pc+1) 0=1):∃sn',(mk code t.toArray lim start pc pos hd om I L F w none sn).step=cond (bol t pos) (mk code t.toArray lim start (pc+2) pos hd om I L F w none sn') (mk code t.toArray lim start pc pos hd om I L F w (some false) sn'):=by
 refine⟨(sn.add 6).add (43+1),(step_mk (size_of h)).trans ((Wo (mk code t.toArray lim start pc pos hd om I L F w none sn) h).trans ?_)⟩
 have e:(mk code t.toArray lim start pc pos hd om I L F w none sn).word 1=1:=h1
 rw[e]
 show(if bol t pos=true then _ else _)=_
 induction bol t pos using za <;>rfl
theorem Wf{t:Txt}(h:code.getD pc 0=6)(h1:code.getD (pc+1) 0=1)(he:bol t pos=true)(hB:B code t.toArray lim start z n (pc+2) pos I L r):B code t.toArray lim start z (n+1) pc pos I L r:=fun hd om F w sn N Q hw k=>
 zg (KO h h1) fun sn' e=>R.step (e.trans (by rw[he];rfl)) (hB hd om F w sn' N Q (w3 hw) k)
theorem Qf{t:Txt}(h:code.getD pc 0=6)(h1:code.getD (pc+1) 0=1)(he:bol t pos=false):B code t.toArray lim start z 1 pc pos I L none:=fun hd om F w sn N Q hw k=>
 zg (KO (pos:=pos) (hd:=hd) (om:=om) (I:=I) (L:=L) (F:=F) (w:=w) (sn:=sn) h h1) fun sn' e=>R.step (e.trans (by rw[he];rfl)) k.no
noncomputable def P0(code:Array Nat)(E:Nat):Nat→List Txt→Bool
 |alt,[]=>code.getD alt 0==0
 |alt,w::ws=>code.getD alt 0==2*w.length+3 && (Rn code (alt+1) w && (code.getD (alt+1+2*w.length) 0==15 && ((alt+1+2*w.length)+1+code.getD (alt+1+2*w.length+1) 0==E && (Nat.ble w.length 10 && P0 code E (alt+(2*w.length+2+1)) ws))))
theorem aB{t s:Txt}{E x:Nat}(h1:code.getD E 0=6)(h2:code.getD (E+1) 0=10)(h3:code.getD (E+2) 0=1)(hp:Pt t lim x s):∀{ws:List Txt} {alt:Nat},P0 code E alt ws=true→A code t.toArray lim start z (20*ws.length) alt x I L (Kt t lim s x ws):=by
 intro ws
 induction ws with
 |nil=>intro alt h;exact ay (eq_of_beq h)
 |cons w ws ih=>
  intro alt h
  have q:=zH.mp h
  have q2:=zH.mp q.2
  have q3:=zH.mp q2.2
  have q4:=zH.mp q3.2
  have q5:=zH.mp q4.2
  have e1:code.getD alt 0=2*w.length+2+1:=eq_of_beq q.1
  have hl:=Uw q2.1
  have e5:w.length≤10:=zC q5.1
  have hA:=ih q5.2
  have hlen:20*(w::ws).length=20*ws.length+20:=by rw[zK];lia
  rw[hlen]
  show A code t.toArray lim start z _ alt x I L (cond (pre? w s && Eb t.toArray lim (x+w.length)) (some (x+w.length)) (Kt t lim s x ws))
  induction hw:pre? w s using za with
  |false=>
   rw[Bool.false_and,jE]
   exact(PW e1 (Pg hl hp hw) hA).mono (by lia)
  |true=>
   rw[Bool.true_and]
   refine zg (pre_app hw) fun s' es=>?_
   have hp':Pt t lim x (w++s'):=es▸hp
   induction he:Eb t.toArray lim (x+w.length)using za with
   |true=>
    rw[j4]
    exact(az e1 (RU (n:=3) hl hp' (Qh (n:=2) (eq_of_beq q3.1) rfl (by rw[eq_of_beq q4.1];exact Xa (n:=1) h1 h2 he (gG h3))))).mono (by lia)
   |false=>
    rw[jE]
    exact(PW e1 (RU (n:=2) hl hp' (Qh (n:=1) (eq_of_beq q3.1) rfl (by rw[eq_of_beq q4.1];exact OD h1 h2 he))) hA).mono (by lia)
end
theorem M3{t r:Txt}{lim c x:Nat}(hc:Qm c=true):∀{ws:List Txt},ws.all (fun w=>match w with |a::_=> !Qm a |[]=>false)=true→Kt t lim (c::r) x ws=none:=by
 intro ws
 induction ws with
 |nil=>exact fun _=>rfl
 |cons w ws ih=>
  intro h
  have q:=zH.mp (jP.symm.trans h)
  show cond (pre? w (c::r) && _) _ (Kt t lim (c::r) x ws)=none
  have hn:pre? w (c::r)=false:=by
   induction w using zo with
   |nil=>exact Bool.noConfusion q.1
   |cons a w=>
    show cond (Nat.beq a c) _ false=false
    induction e:Nat.beq a c using za with
    |false=>rfl
    |true=>
     have q1:(!Qm a)=true:=q.1
     rw[zw e,hc]at q1
     exact Bool.noConfusion q1
  rw[hn]
  exact ih q.2
theorem aI{t:Txt}{lim p:Nat}{start:SP}(h:p≤lim)(hq:lim≤t.length)(hf:t.length≤100000):B BD t.toArray lim start false (310*(lim - p)+1000) 5 p none #[] (Fy t lim p):=by
 have hp:Pt t lim p ((t.take lim).drop p):=⟨h,hq,rfl,hf⟩
 have hb:Acc BD 11 Qm:=WX (n:=3) rfl (fun c=>Q7 rfl rfl (Q7 rfl rfl (Yc rfl))) (by decide)
 unfold Fy
 have hlen:=hp.len
 generalize(t.take lim).drop p=s at hp hlen ⊢
 have hle:=LQ Qm s
 have hd:=hp.drop hle
 have hal:P0 BD 205 20 IE=true:=by decide+kernel
 have h19:BD.getD 19 0=7:=by decide+kernel
 have w14:20*IE.length=280:=by decide+kernel
 have all:∀{x:Nat} {s':Txt},Pt t lim x s'→B BD t.toArray lim start false 281 19 x none #[] (Kt t lim s' x IE):=fun hx=>Qg h19 (w14▸aB (by decide+kernel) (by decide+kernel) (by decide+kernel) hx hal)
 induction e:bol t p using za with
 |false=>rw[jE];exact(Qf (by decide+kernel) (by decide+kernel) e).mono (by lia)
 |true=>
  rw[j4]
  have hT:=all hd
  induction q:Kt t lim (s.drop (BC Qm s)) (p+BC Qm s) IE using zh with
  |some e'=>
   rw[q]at hT
   exact(Wf (by decide+kernel) (by decide+kernel) e (dN (pc:=7) (skip:=11) (n:=281) (least:=0) (by decide+kernel) (by decide+kernel) (by decide+kernel) (by decide+kernel) hb hp (zY _) hT)).mono (by lia)
  |none=>
   rw[q]at hT
   refine B.mono (Wf (n:=281+281+3+s.length*(281+1)) (by decide+kernel) (by decide+kernel) e (RV (pc:=7) (skip:=11) (least:=0) (n:=281) (c:=281) (by decide+kernel) (by decide+kernel) (by decide+kernel) (by decide+kernel) hb hp (fun _=>hT) (fun i c' r _ _ hc hpt=>?_) (zu _))) (by lia)
   have:=all hpt
   rw[M3 hc (by decide+kernel)]at this
   exact this
end
section
open PySem PySem.Sre
noncomputable def nx(pc s:Nat)(first:Bool):Sre.Frame:={wait:=.nextStart,pc,pos:=s,outermost:=first}
noncomputable def S0(t:Txt)(lim last s:Nat)(first:Bool)(sn:Seen):M:=mk BD t.toArray lim (s,last) 5 s s first none #[] [nx 5 s first] 1 none sn
noncomputable def Ot(r:Option (Nat×Nat))(m:M):Prop:=match r with
 |some p=>m.outcome=some .matched∧m.handed=p.2∧m.start=p.1∧m.marks= #[]∧m.lastmark= -1∧m.lastindex= -1
 |none=>m.outcome=some .failed
theorem HD{t:Txt}{lim hd pos pc:Nat}{start:SP}{om:Bool}{I:Option Nat}{L:Array Loop}{F:List Sre.Frame}{w:Nat}{an:Option Bool}{sn:Seen}:(mk BD t.toArray lim start pc pos hd om I L F w an sn).hasFirstSet=false:=by
 show((match ops[BD.getD 0 0]? with |some .INFO=>true |_=>false) && BD.getD 2 0==4)=false
 have h0:BD.getD 0 0=14:=by decide+kernel
 have h2:BD.getD 2 0=0:=by decide+kernel
 rw[h0,h2];rfl
theorem NH{t:Txt}{lim last s p0 pos hd:Nat}{om first:Bool}{sn:Seen}:(mk BD t.toArray lim (p0,last) 5 pos hd om none #[] [] 0 none sn).attemptFrom s first=S0 t lim last s first sn:=by
 unfold M.attemptFrom
 rw[HD]
 rfl
theorem Sz{t:Txt}{lim pc pos hd:Nat}{start:SP}{om b:Bool}{sn:Seen}:(mk BD t.toArray lim start pc pos hd om none #[] [] 0 (some b) sn).step={mk BD t.toArray lim start pc pos hd om none #[] [] 0 (some b) sn with outcome:=some (if b then .matched else .failed)}:=rfl
theorem Ix{t:Txt}{lim s last pos hd:Nat}{om first:Bool}{sn:Seen}:M.resume (mk BD t.toArray lim (s,last) 5 pos hd om none #[] [] 0 none sn) (nx 5 s first) false=if s < last then S0 t lim last (s+1) false sn else mk BD t.toArray lim (s,last) 5 pos hd om none #[] [] 0 (some false) sn:=by
 show(if s < last then M.attemptFrom (mk BD t.toArray lim (s,last) 5 pos hd om none #[] [] 0 none sn) (s+1) false else _)=_
 rw[NH];rfl
theorem Vu{t:Txt}{lim last c:Nat}{Fs:Nat→Option Nat}(hc:1+c≤16777216)(hF:∀s,s≤last→B BD t.toArray lim (s,last) false c 5 s none #[] (Fs s)):∀(n s:Nat) (first:Bool) (sn:Seen),s+n=last→
  R ((n+1)*(c+3)) (S0 t lim last s first sn) (Ot (E1 Fs n s)):=by
 intro n
 induction n with
 |zero=>
  intro s first sn hs
  have hB:=hF s (by lia)
  show R _ _ (Ot (match Fs s with |some e=>some (s,e) |none=>none))
  refine R.mono (hB s first [nx 5 s first] 1 sn 2 _ hc fun pc hd pos om I' L' sn' h4 h5=>?_) (by lia)
  induction q:Fs s using zh with
  |some e=>
   rw[q]at h4
   have he:=h4 e rfl
   exact R.step (BW (nx 5 s first) rfl true) (R.step rfl (R.here ⟨rfl,he,rfl,rfl,rfl,rfl⟩))
  |none=>
   rw[q]at h5
   refine Aw (h5 (.inl rfl)) fun h6 h7=>?_
   rw[h6,h7]
   exact R.step ((BW (nx 5 s first) rfl false).trans (Ix.trans (zR (by lia)))) (R.step Sz (R.here rfl))
 |succ n ih=>
  intro s first sn hs
  have hB:=hF s (by lia)
  show R _ _ (Ot (match Fs s with |some e=>some (s,e) |none=>E1 Fs n (s+1)))
  have eN:(n+1+1)*(c+3)=(n+1)*(c+3)+(c+3):=Nat.succ_mul _ _
  refine R.mono (hB s first [nx 5 s first] 1 sn ((n+1)*(c+3)+2) _ hc fun pc hd pos om I' L' sn' h4 h5=>?_) (by lia)
  induction q:Fs s using zh with
  |some e=>
   rw[q]at h4
   have he:=h4 e rfl
   exact R.mono (R.step (BW (nx 5 s first) rfl true) (R.step (n:=0) rfl (R.here ⟨rfl,he,rfl,rfl,rfl,rfl⟩))) (by lia)
  |none=>
   rw[q]at h5
   refine Aw (h5 (.inl rfl)) fun h6 h7=>?_
   rw[h6,h7]
   exact R.mono (R.step ((BW (nx 5 s first) rfl false).trans (Ix.trans (z5 (by lia)))) (ih (s+1) false sn' (by lia))) (by lia)
theorem HB{code text:Array Nat}{pos lim:Nat}:∃sn,forSearch code text 0 pos lim false=if(decide (pos >lim) || decide (lim - pos < (header code).1))=true then mk code text lim (pos,0) (header code).2 pos pos true none #[] [] 0 (some false) sn else
  M.attemptFrom (mk code text lim (pos,if(decide ((header code).1 >1) && !((header code).2 !=0 && code.getD 2 0 &&& 5 !=0))=true then max pos (lim - ((header code).1 - 1))else lim) (header code).2 pos pos true none #[] [] 0 none sn) pos true:=by
 refine⟨if(header code).2==0 then{}else({}:Sre.Seen).add 14,?_⟩
 unfold forSearch
 by_cases h:(decide (pos >lim) || decide (lim - pos < (header code).1))=true
 ·rw[z5 h,z5 h];rfl
 ·rw[zR h,zR h];rfl
theorem Ub:header BD=(3,5):=by
 unfold header
 have h0:BD.getD 0 0=14:=by decide+kernel
 have h1:BD.getD 1 0=4:=by decide+kernel
 have h3:BD.getD 3 0=3:=by decide+kernel
 rw[h0,h1,h3];rfl
theorem I7{t:Txt}{pos lim:Nat}(h:pos≤lim):∃sn,forSearch BD t.toArray 0 pos lim false=cond (Nat.blt (lim - pos) 3) (mk BD t.toArray lim (pos,0) 5 pos pos true none #[] [] 0 (some false) sn) (S0 t lim (max pos (lim - 2)) pos true sn):=by
 refine zg (HB (code:=BD) (text:=t.toArray) (pos:=pos) (lim:=lim)) fun sn e=>⟨sn,?_⟩
 have h2:BD.getD 2 0=0:=by decide+kernel
 rw[Ub,h2]at e
 have e0:decide (pos >lim)=false:=zU (Nat.not_lt.mpr h)
 rw[e0,Bool.false_or]at e
 rw[e]
 show(if decide (lim - pos < 3)=true then _ else M.attemptFrom (mk BD t.toArray lim (pos,max pos (lim - 2)) 5 pos pos true none #[] [] 0 none sn) pos true)=_
 rw[NH]
 induction q:Nat.blt (lim - pos) 3 using za with
 |true=>
  have hl:lim - pos < 3:=zC q
  rw[z5 (ja hl),j4]
 |false=>
  have hl:¬lim - pos < 3:=fun hc=>by rw[Nat.blt,zD hc]at q;exact Bool.noConfusion q
  rw[zR (by rw[zU hl];exact jp),jE]
theorem TI{n:Nat}(h:n≤50000):1+(310*n+1000)≤16777216:=by lia
theorem TJ{n:Nat}(h:n≤50000):310*n+1000+3≤15501003:=by lia
theorem aU{t:Txt}{pos lim:Nat}(h:pos≤lim)(hq:lim≤t.length)(hf:t.length≤50000):∃k,k < 4*2 ^ 64∧Ot (Ck t pos lim) (iter k (forSearch BD t.toArray 0 pos lim false)):=by
 refine zg (I7 (t:=t) h) fun sn e=>?_
 rw[e]
 unfold Ck
 induction q:Nat.blt (lim - pos) 3 using za with
 |true=>rw[j4,j4];exact⟨1,by decide,rfl⟩
 |false=>
  rw[jE,jE]
  have hm:max pos (lim - 2)≤lim:=Nat.max_le.mpr ⟨h,j9 _ _⟩
  have hl:=zp hq hf
  refine Aa (Vu (t:=t) (lim:=lim) (last:=max pos (lim - 2)) (c:=310*lim+1000) (Fs:=Fy t lim) (TI hl) (fun s hs=>(aI (zp hs hm) hq (zp hf (by decide))).mono (Nat.add_le_add_right (Nat.mul_le_mul_left _ (j9 _ _)) _)) (max pos (lim - 2) - pos) pos true sn (Nat.add_sub_cancel' (Nat.le_max_left _ _))) fun k hk g=>⟨k,?_,g⟩
  refine jm (zp hk (Nat.mul_le_mul (z3 (zp (j9 _ _) (zp hm hl))) (TJ hl))) (by decide)
end
section
open PySem PySem.W PySem.Calls PyProof.Rows Builtin Builtin.Re
theorem Hv(a b:Value):BQ "re.Pattern.search" "Pattern.search" ⟨[a,b],[]⟩:=by
 unfold BQ;rw[JU (id:="re.Pattern.search") (n:=['h','c','r','a','e','s']) (o:=['n','r','e','t','t','a','P','.','e','r']) (by kernel_rfl) Fo];kernel_rfl
theorem Hw(a b c:Value):BQ "re.Pattern.search" "Pattern.search" ⟨[a,b,c],[]⟩:=by
 unfold BQ;rw[JU (id:="re.Pattern.search") (n:=['h','c','r','a','e','s']) (o:=['n','r','e','t','t','a','P','.','e','r']) (by kernel_rfl) Fo];kernel_rfl
theorem HA(a b c d:Value):BQ "re.Pattern.search" "Pattern.search" ⟨[a,b,c,d],[]⟩:=by
 unfold BQ;rw[JU (id:="re.Pattern.search") (n:=['h','c','r','a','e','s']) (o:=['n','r','e','t','t','a','P','.','e','r']) (by kernel_rfl) Fo];kernel_rfl
theorem Li:builtinKind "re.Pattern.search"=some .method:=by decide+kernel
theorem I3:entryFor table "re.Pattern.search"=some Builtin.«re.Pattern.search»:=JD (by kernel_rfl)
theorem O2:typeLookup (.type "re.Pattern") "search"=pure (some (.builtin "re.Pattern.search")):=by rw[jW,jt];kernel_rfl
theorem LO:Slot "re.Pattern" "search" "re.Pattern.search":=
 .of (owner:="re.Pattern") (n:="search") O2 (by decide+kernel) (by decide+kernel) (by decide+kernel)
  (by first |exact .inl (by decide+kernel) |exact .inr (by decide+kernel)) (by rw[zN];kernel_rfl)
theorem PD:Manifest.varargsMethods.contains "re.Pattern.search"=false:=by decide+kernel
theorem K8:s!"{Bind.lastOf "re.Pattern"}.{Bind.lastOf "re.Pattern.search"}"="Pattern.search":=by kernel_rfl
section
variable {prog:Program}{w:World}{A:Around}{s:Shared}{Ev:Value→Shared→Prop}
theorem PG{r:Option (Nat×Nat)}{m:Sre.M}{k:Nat}(hk:k < 4*2 ^ 64)(g:Ot r (iter k m)){Q:Option Sre.M→Shared→Prop}(hq:match r with |some p=>∀m,Ot (some p) m→Q (some m) s |none=>Q none s):wpAny (model prog w) A (reRunToEnd m) Q Ev s:=by
 unfold reRunToEnd
 refine zj (L4 _ k m _ hk ?_ ?_)
 ·induction r using zh with
  |none=>rw[show(iter k m).outcome=some .failed from g];rfl
  |some e=>rw[g.1];rfl
 ·refine zj (Oq (fun b Q hQ=>?_) ?_ _)
  ·by_cases hc:(iter k m).seen.has b=true
   ·rw[z5 hc];exact zj (wpAny_rule (zF hQ))
   ·rw[zR hc];exact zF hQ
  ·induction r using zh with
   |none=>rw[show(iter k m).outcome=some .failed from g];exact zF hq
   |some e=>rw[g.1];exact zF (hq _ g)
end
section
variable {c:Cx}{S:Sx}{f:Fx}{A:Around}{R:Rec}{σ:St}{s:Shared}{pat:Addr}
theorem Et{Ev:Value→Shared→Prop}(r:Ap c f R σ s.heap){t:Txt}{tk:Tok}{rest:List Value}{p lim:Nat}{v:Val}(hp:p≤lim)(hl:lim≤t.length)(hf:t.length≤50000)(hv:CM (Ck t p lim)=some v)
  (ht:∀(Q:ReTarget→Shared→Prop) (A:Around),Q {pattern:=.ref pat,string:=.str ⟨t.toArray⟩ tk,code:=BD,text:=t.toArray,kind:=0,groups:=0,pos:=p,lim:=lim} s→wpAny (model c.prog c.w) A (reTarget "re.Pattern.search" "search" ⟨.ref pat::.str ⟨t.toArray⟩ tk::rest,[]⟩) Q Ev s)
  {Q:Value→Shared→Prop} (hq:∀R' rv s',R.le R'→An s s'→Ap c f R' σ s'.heap→c.V R' v rv→Q rv s'):
  wpAny (model c.prog c.w) A (Builtin.«re.Pattern.search» ⟨.ref pat::.str ⟨t.toArray⟩ tk::rest,[]⟩) (fun fin s'=>∃v,fin=.done (.ret v)∧Q v s') Ev s:=by
 unfold Builtin.«re.Pattern.search»
 refine zj (ht _ _ ?_)
 unfold reAnswer
 refine Aa (aU hp hl hf) fun k hk g=>?_
 generalize Ck t p lim=res at hv g
 refine zj (PG (r:=res) (k:=k) hk g ?_)
 induction res using zh with
 |none=>
  cases hv
  exact zF ⟨_,rfl,hq R _ s (.refl R) (.refl s) r .none⟩
 |some e=>
  cases hv
  intro m g
  refine zj (L5 g ?_)
  refine zF ⟨_,rfl,?_⟩
  refine Av r ?_;clear r;intro mm led r
  refine Hm (r.frozen (r.F.push (seqObj true [rawInt e.1,rawInt e.2] 0)) (News.push r.F r.N (seqObj true [rawInt e.1,rawInt e.2] 0)) (fun p hp=>jD (r.N p hp).1)) fun R1 le1 r1 z1 _ _=>?_
  have hsz:(s.heap.push (seqObj true [rawInt e.1,rawInt e.2] 0)).objs.size=s.heap.objs.size+1:=by simp[Heap.push]
  refine Hm (r1.frozen (r1.F.push (EW (.str ⟨t.toArray⟩ tk) (.ref pat) p lim (-1) s.heap.objs.size)) (News.push r1.F r1.N (EW (.str ⟨t.toArray⟩ tk) (.ref pat) p lim (-1) s.heap.objs.size)) (fun p hp=>jD (r1.N p hp).1)) fun R2 le2 r2 z2 _ _=>?_
  rw[hsz]at z2
  exact hq R2 _ _ (le1.trans le2) AK ⟨_,_,r2⟩ (.mt (.inr z2) (Cx.Z.mono le2 _ _ (.inr z1)))
structure Ox(K:Frag)(q:Addr):Prop where
 at_:∃pat,K.lookup q=some (No "re.Pattern.search" (.ref pat))∧PT K pat BD
theorem MW{B':Around}{Ev:Value→Shared→Prop}(P:PT c.K pat BD)(X:c.K.In s.heap)(r:Ap c f R σ s.heap){ws:List Val}{vs:List Value}{t:Txt}{p lim:Nat}{v:Val}
  (as:HP ws t p lim) (hp:p≤lim) (hf:t.length≤50000) (hvs:PL c R s.heap ws vs) (hv:CM (Ck t p lim)=some v) {Q:Value→Shared→Prop} (hq:∀R' rv s',R.le R'→An s s'→Ap c f R' σ s'.heap→c.V R' v rv→Q rv s'):
  wpAny (model c.prog c.w) B' (Builtin.«re.Pattern.search» ⟨.ref pat::vs,[]⟩) (fun fin s'=>∃v,fin=.done (.ret v)∧Q v s') Ev s:=by
 refine DT P.at_ fun p0 fl ct sl sl2 h0=>Aa h0 fun n k1 k2=>?_
 have g1:=X _ _ k1
 have g2:=X _ _ k2
 cases as with
 |one=>
  cases hvs with |cons a b=>cases b with |nil=>
  refine Aa (M8 a) fun tk hq1 hl=>?_;subst hq1
  exact Et (rest:=[]) r hp (zu _) hf hv (fun Q A h=>Nb g1 g2 h hl) hq
 |two _ p hp'=>
  cases hvs with |cons a b=>cases b with |cons a' b=>cases b with |nil=>
  refine Aa (M8 a) fun tk hq1 hl=>?_;subst hq1
  refine zg (M7 a') fun u hq1=>?_;subst hq1
  exact Et (rest:=[.int (.ofNat p) u]) r hp (zu _) hf hv (fun Q A h=>Nc g1 g2 h hl hp') hq
 |three _ p q hp' hq'=>
  cases hvs with |cons a b=>cases b with |cons a' b=>cases b with |cons a'' b=>cases b with |nil=>
  refine Aa (M8 a) fun tk hq1 hl=>?_;subst hq1
  refine zg (M7 a') fun u hq1=>?_;subst hq1
  refine zg (M7 a'') fun u' hq1=>?_;subst hq1
  exact Et (rest:=[.int (.ofNat p) u,.int (.ofNat lim) u']) r hp hq' hf hv (fun Q A h=>Nd g1 g2 h hl hp' hq') hq
theorem Mj{ws:List Val}{vs:List Value}{t:Txt}{p lim:Nat}{R:Rec}{h:Heap}(as:HP ws t p lim)(hvs:PL c R h ws vs)(a:Value):BQ "re.Pattern.search" "Pattern.search" ⟨a::vs,[]⟩:=by
 cases as with
 |one=>cases hvs with |cons _ b=>cases b with |nil=>exact Hv _ _
 |two=>cases hvs with |cons _ b=>cases b with |cons _ b=>cases b with |nil=>exact Hw _ _ _
 |three=>cases hvs with |cons _ b=>cases b with |cons _ b=>cases b with |cons _ b=>cases b with |nil=>exact HA _ _ _ _
theorem RI{n:Str}{q:Addr}{sem:List Val→Option Val}(g:Te c S n (.ref q))(P:Ox c.K q)(hs:∀ws v,sem ws=some v→∃t p lim,HP ws t p lim∧p≤lim∧t.length≤50000∧CM (Ck t p lim)=some v):B7 c S n sem:=by
 intro d f A X R σ s a npos pos x xs Ev Q hp h
 rw[AI]
 refine zj (GE a g ?_)
 refine Aa P.at_ fun pat k1 Pp=>?_
 refine callWith_bound (id:="re.Pattern.search") (self:=.ref pat) hp (zW h (fun vs s₁ h₁=>?_) fun _ _ x=>x)
 refine DS h₁ fun R₁ σ₁ ws hvs h=>BZ h fun v hv a₁ hq=>?_
 have r₁:=a₁.r
 refine Av a₁.r fun m led r=>?_
 have Xs:c.K.In s₁.heap:=a₁.G.X.keeps r.F.keep
 refine AD (hs ws v hv) fun t p lim as hpl hf hm=>?_
 refine⟨Xs _ _ k1,?_⟩
 refine DT Pp.at_ fun p0 fl ct sl sl2 h0=>Aa h0 fun nn e1 e2=>?_
 have hrun:wpAny (model c.prog c.w) A.in1 (Builtin.«re.Pattern.search» ⟨.ref pat::vs,[]⟩) (fun fin s'=>∃v,fin=.done (.ret v)∧Q v s') Ev s₁:=MW Pp Xs r₁ as hpl hf hvs hm hq
 have hchk:wpAny (model c.prog c.w) A.in1 (checkBoundCall "re.Pattern.search" ⟨.ref pat::vs,[]⟩) (fun _ s₁=>wpAny (model c.prog c.w) A.in1 (Builtin.«re.Pattern.search» ⟨.ref pat::vs,[]⟩) (fun fin s'=>∃v,fin=.done (.ret v)∧Q v s') Ev s₁) Ev s₁:=
  @FI c.prog c.w A.in1 s₁ (fun _ s₁=>wpAny (model c.prog c.w) A.in1 (Builtin.«re.Pattern.search» ⟨.ref pat::vs,[]⟩) (fun fin s'=>∃v,fin=.done (.ret v)∧Q v s') Ev s₁) Ev "re.Pattern.search" "re.Pattern" "Pattern.search" (.ref pat) pat vs _ rfl (Xs _ _ e1) rfl RY Li (Mj as hvs (.ref pat)) VI PD K8 hrun
 exact Gw (Xs _ _ k1) LO.plain I3 hchk
end
end
end Ag.Rxm
section
open PySem PySem.W PySem.Calls PyProof.Rows
namespace Ag.Rxm
section
noncomputable def Ei:Rx:=⟨Ck⟩
section
variable {c:Cx}{S:Sx}
theorem Fg{b:Bool}{o:Option (Nat×Nat)}{v:Val}(h:cond b (CM o) none=some v):b=true∧CM o=some v:=by
 induction b using za with
 |true=>exact⟨rfl,h⟩
 |false=>exact nz h
theorem UG{n:Str}{q:Addr}(g:Te c S n (.ref q))(P:Ox c.K q):B7 c S n (fun |[x]=>Cb Ei .syn1 x |_=>none):=
 RI g P fun ws v h=>Aa (M9 (F:=Cb Ei .syn1) h) fun x ew h=>Aa (bS h) fun t ex h=>by
  rw[ew,ex];exact⟨t,0,t.length,.one t,zY _,Cn (Fg h).1,(Fg h).2⟩
theorem UH{n:Str}{q:Addr}(g:Te c S n (.ref q))(P:Ox c.K q):B7 c S n (fun |[x,y]=>Bu Ei .syn2 x y |_=>none):=
 RI g P fun ws v h=>AH (Z5 (F:=Bu Ei .syn2) h) fun x y ew h=>Aa (bS h) fun t ex h=>Aa (bN h) fun p ey h=>by
  rw[ew,ex,ey]
  have e:=Ac (Fg h).1
  exact⟨t,p,t.length,.two t p (Cn e.1),Cn e.1,Cn e.2,(Fg h).2⟩
theorem UI{n:Str}{q:Addr}(g:Te c S n (.ref q))(P:Ox c.K q):B7 c S n (fun |[x,y,z]=>Eu Ei .syn3 x y z |_=>none):=
 RI g P fun ws v h=>DS (Z6 (F:=Eu Ei .syn3) h) fun x y z ew h=>Aa (bS h) fun t ex h=>Aa (bN h) fun p ey h=>Aa (bN h) fun q' ez h=>by
  rw[ew,ex,ey,ez]
  have e:=Ac (Fg h).1
  have e2:=Ac e.2
  exact⟨t,p,q',.three t p q' (zp (Cn e.1) (Cn e2.1)) (Cn e2.1),Cn e.1,Cn e2.2,(Fg h).2⟩
end
end
end Ag.Rxm
namespace Ag
section
set_option maxHeartbeats 4000000
noncomputable def Bs(P:Kx)(d:Nat):Cfg:=⟨P.rx,A8 P d,P.init,P.nf⟩
theorem aJ{c:Cx}{C:Cfg}{d:Nat}{D:Dd}{fa:Addr}{cd:Value}{ss:Ss}{T:Tb}(ok:Dy c)(HC:AM c C d c.mth)(W:Tq c C d ⟨D.names,D.scope,D.Af⟩ T)(h:DN T ss 0=true)(hb:BR T ss 0=D.body):IM c C d D.body D.qual D.scope fa cd D.names D.Af ss:=by
 intro f A R σ s m led X K _ h2 _ _ h5 h6 G NM hpos r hw Ev Q xo po hq
 rw[←hb]
 refine SM W ok HC ss 0 h f A X R σ s K ⟨G,NM,h5,h2,h6,hpos,⟨m,led,r⟩⟩ hw Ev Q ⟨xo,po⟩ fun o σ' R' fl s' le sm hk rx hfl=>hq o σ' R' fl s' le sm hk rx ?_
 induction hfl using IO.casesOn with
 |next=>trivial
 |brk=>trivial
 |cont=>trivial
 |ret hl=>exact hl
theorem OJ{c:Cx}{P:Kx}{Ds:List (Dd×Addr×Value)}(ok:Dy c)(H:Dz c P Ds)(hmth:c.mth=Ii Ds)
  (hT:∀d,AM c (Bs P d) d c.mth→∀(k:Nat) (D:Dd) (a:Addr) (cdv:Value) (fn:Fn),Ds[k]? =some (D,a,cdv)→P.fns[k]? =some fn→IM c (Bs P d) d D.body D.qual D.scope a cdv D.names D.Af fn.body) (d:Nat):AM c (Bs P d) d c.mth:=by
 induction d with
 |zero=>exact fun _ _ _ _ _ _ _ _ h=>h.elim
 |succ d HC=>
  have go:=hT d HC
  rw[hmth]
  exact Mk (C:=Bs P (d+1)) (C':=Bs P d) H rfl rfl go
structure KF(c:Cx)(C2:List Str)(mtn:Nat)(cls:Str)(fI:Addr):Prop where
 bi:∀n∈(["len","sum","range"]:List Str),nsIn c.K mainGlobals n=some none
 syn:∃q,nsIn c.K mainGlobals "_synchre"=some (some (.ref q))∧Rxm.Ox c.K q
 tr:∃q,nsIn c.K mainGlobals "trans"=some (some (.ref q))∧Mg c.K q
 fn:∀k,mtn≤k→k < C2.length→c.mth k=false∧∃a,c.fad[k]? =some a∧nsIn c.K mainGlobals (Aj C2 k)=some (some (.ref a))∧keepIn c.K (.ref a)=true
 mt:∀k,k < mtn→PP c (Aj C2 k) k
 cl:nsIn c.K mainGlobals cls=some (some (.ref c.PC))∧keepIn c.K (.ref c.PC)=true∧makesIn c.K c.PC=true∧findIn c.K (.ref c.PC) "__init__"=some (some (.ref fI))∧isFn c.K (.ref fI)=true
noncomputable def Ui(cs:Scope)(n:Str)(k:NameKind):Bool:=cs.names.lookup n==some k
noncomputable def O9(n:Str):Bool:= !(n==("__debug__":Str))
noncomputable def bR(cs:Scope)(self:Str)(Af:Bool)(names cells gls:List Str):Bool:=
 decide (cs.kind=.function) && (names.all (fun n=>Ui cs n (cond (Bn cells n) .cell .local)) && (gls.all (fun n=>Ui cs n .globalImplicit && O9 n) && ((!Af || (Ui cs self .local && O9 self)) && cells.all (fun n=>Ui cs n .cell))))
theorem Dl{cs:Scope}{n:Str}{k:NameKind}(h:Ui cs n k=true):cs.names.lookup n=some k:=eq_of_beq h
theorem O8(n:Str):Dn n n=true:=by
 unfold Dn
 induction n.cps.toList with
 |nil=>rfl
 |cons a r ih=>show cond (Nat.beq a a) (Bo r r) false=true;rw[jA];exact ih
theorem EV{l:List Str}{n:Str}(h:n∈l):Bn l n=true:=by
 induction l with
 |nil=>exact nomatch h
 |cons m r ih=>
  show(Dn m n || Bn r n)=true
  induction zI.mp h using jY with
  |inl e=>rw[e,O8];rfl
  |inr h=>rw[ih h];exact Bool.or_true _
section
variable {c:Cx}{P:Kx}{d:Nat}{S:Sx}{C2:List Str}{mtn:Nat}{cls cv:Str}{ps:Nat}{fI:Addr}{cells gls:List Str}
theorem WR(F:KF c C2 mtn cls fI)(hrx:P.rx=Rxm.Ei)(hnf:P.nf=c.attrs.length)(hI:c.fad[P.init]? =some fI)(hIm:c.mth P.init=true)(L:∀L∈c.lams,FF L){DA:Dd}{aA:Addr}{cA:Value}(O:Eh c DA aA cA)(HC:AM c (Bs P d) d c.mth)(h:bR S.cs c.self S.Af S.names cells gls=true):
  Tq c (Bs P d) d S ⟨S.names,c.attrs,c.self,S.Af,cells,gls,c.gl,C2,mtn,cls,cv,⟨.function,[],false,false,[]⟩,ps⟩:=by
 unfold bR at h
 have h0:=Ac h
 have h1:=Ac h0.2
 have h2:=Ac h1.2
 have h3:=Ac h2.2
 have gsc:∀n∈gls,S.cs.names.lookup n=some .globalImplicit∧(n==("__debug__":Str))=false:=fun n hn=>
  have q:=Ac (zT.mp h2.1 n hn)
  ⟨Dl q.1,BN q.2⟩
 have gl:∀{n:Str} {v:Value},n∈gls→nsIn c.K mainGlobals n=some (some v)→Te c S n v:=fun hn e=>⟨e,(gsc _ hn).1,(gsc _ hn).2⟩
 have bi:∀{n:Str} {v:Value},n∈gls→n∈(["len","sum","range"]:List Str)→bootBuiltins n=some v→n≠"__name__"→Ma c S n v:=fun hn hm hb hne=>⟨F.bi _ hm,hb,hne,(gsc _ hn).1,(gsc _ hn).2⟩
 have nk:∀n∈S.names,S.cs.names.lookup n=some (cond (Bn cells n) .cell .local):=fun n hn=>Dl (zT.mp h1.1 n hn)
 have C1:(Bs P d).rx=Rxm.Ei:=hrx
 have mm:∀{n:Str} {l:List Str},Bn l n=true→n∈l:=Bc
 refine⟨{names:=rfl,attrs:=rfl,self:=rfl,Af:=rfl,gl:=rfl,kfun:=zX h0.1,loc:=fun n hn=>?_,sk:=fun hm=>?_,gsc:=gsc,n1:=fun o ho hn=>?_,n2:=fun o ho hn=>?_,n3:=fun o ho hn=>?_,sq:=fun hn=>?_,ms:=O6,mp:=RB,mf:=Rz,mr:=O7,fn:=fun k h1 h2 hn _=>?_,mt:=F.mt,celk:=fun n hn=>?_,new:=fun hm hn=>?_,ic:=fun k q p n x e hn hp i=>QG L O hn hp i},fun n hn hc=>?_,fun hn=>?_⟩
 ·rw[nk n hn];induction Bn cells n using za <;>exact nofun
 ·have hm:S.Af=true:=hm
  have h3:=h3.1
  rw[hm]at h3
  exact⟨Dl (Ac h3).1,BN (Ac h3).2⟩
 ·rw[C1]
  induction o using P1.casesOn with
  |len=>exact Yz (bi hn (mm (by kernel_rfl)) rfl (by decide+kernel))
  |sum=>exact YA (bi hn (mm (by kernel_rfl)) rfl (by decide+kernel))
  |syn1=>exact Aa F.syn fun q e1 e2=>Rxm.UG (gl hn e1) e2
  |_=>exact ft ho
 ·rw[C1]
  induction o using P2.casesOn with
  |syn2=>exact Aa F.syn fun q e1 e2=>Rxm.UH (gl hn e1) e2
  |_=>exact ft ho
 ·rw[C1]
  induction o using P3.casesOn with
  |syn3=>exact Aa F.syn fun q e1 e2=>Rxm.UI (gl hn e1) e2
  |_=>exact ft ho
 ·exact Aa F.tr fun q e1 e2 x p q q' hb hl=>PI e2 (gl hn e1) hb hl
 ·exact Aw (F.fn k h1 h2) fun h5 h=>BZ h fun ad h6 h7 h8=>⟨h5,ad,h6,gl hn h7,h8⟩
 ·exact Dl (zT.mp h3.2 n hn)
 ·refine@V7 _ _ _ _ _ _ F.cl fun k1 k2 k3 k4 k5=>?_
  exact@Yw c (Bs P d) d S cls fI hm (gl hn k1) k2 k3 k4 k5 hI hIm hnf HC
 ·have hc:Bn cells n=false:=hc
  rw[nk n hn,hc];rfl
 ·exact bi hn (mm (by kernel_rfl)) rfl (by decide+kernel)
end
end
noncomputable def fdOf(K:Frag)(a:Addr):FuncData:=match K.lookup a with
 |some ⟨_,_,.func fd,_⟩=>fd
 |_=>default
noncomputable def E2(fd:FuncData):List Stmt:=match fd.body with
 | .stmts b=>b
 | .expr _=>[]
noncomputable def NE(K:Frag)(a:Addr)(Af:Bool)(pargs locs cells:List Str):Dd:=⟨(fdOf K a).name,(fdOf K a).qualname,(fdOf K a).params,E2 (fdOf K a),(fdOf K a).scope,Af,pargs,locs,cells⟩
noncomputable def ag:List Str→Bool
 |[]=>true
 |n::r=> !Bn r n && ag r
noncomputable def kO(K:Frag)(self:Str)(a:Addr)(Af:Bool)(pargs locs cells:List Str):Bool:=
 (match K.lookup a with
 |some ⟨_,_,.func fd,_⟩=>(match fd.body with | .stmts _=>true | .expr _=>false) && (Nat.beq fd.globals mainGlobals && (fd.closure.isEmpty && Nat.beq fd.builtins builtinsNs))
 |_=>false) &&
 (codeIn K (fdOf K a).code (fdOf K a).qualname && (keepIn K (.ref a) && (isFn K (.ref a) &&
 ((pargs++locs).all (fun n=>(fdOf K a).scope.names.lookup n==some (cond (Bn cells n) .cell .local) && (!(n==("__debug__":Str)) && !(n==("__classdict__":Str)))) &&
 ((!Af || (fdOf K a).scope.names.lookup self==some .local) && (((cellsFrom 0 (fdOf K a).scope.names []).map (·.1)==cells && ag cells) &&
 (!(fdOf K a).scope.isCoroutine && (!(fdOf K a).scope.isGenerator && (decide ((fdOf K a).scope.kind=.function) && (ag (pargs++locs) && !Bn (pargs++locs) self))))))))))
theorem GR:∀{l:List Str},ag l=true→l.Nodup
 |[],_=>List.nodup_nil
 |n::r,h=>by
  unfold ag at h
  rw[jN,JH]at h
  exact jg.mpr ⟨fun hm=>absurd (EV hm) (by rw[h.1];simp),GR h.2⟩
theorem YE{o:Option Obj}{P:FuncData→Bool}(h:(match o with |some ⟨_,_,.func fd,_⟩=>P fd |_=>false)=true):∃oc od fd osl,o=some ⟨oc,od,.func fd,osl⟩∧P fd=true:=by
 induction o using zh with
 |none=>exact nomatch h
 |some ob=>induction ob using Obj.casesOn with
  |mk oc od d osl=>induction d using Data.casesOn with
   |func fd=>exact⟨oc,od,fd,osl,rfl,h⟩
   |_=>exact nomatch h
theorem bc{K:Frag}{a:Addr}(h0:(match K.lookup a with
 |some ⟨_,_,.func fd,_⟩=>(match fd.body with | .stmts _=>true | .expr _=>false) && (Nat.beq fd.globals mainGlobals && (fd.closure.isEmpty && Nat.beq fd.builtins builtinsNs))
 |_=>false)=true):∃oc od osl,K.lookup a=some ⟨oc,od,.func (fdOf K a),osl⟩∧(fdOf K a).body=.stmts (E2 (fdOf K a))∧(fdOf K a).globals=mainGlobals∧(fdOf K a).closure=[]∧(fdOf K a).builtins=builtinsNs:=by
 refine Nf (YE h0) fun oc od fd osl e hP=>?_
 have ef:fdOf K a=fd:=by unfold fdOf;rw[e]
 rw[ef]
 refine Aw (zH.mp hP) fun q1 h=>Aw (zH.mp h) fun q2 h=>Aw (zH.mp h) fun q3 q4=>?_
 refine⟨oc,od,osl,e,?_,zw q2,Jo.mp q3,zw q4⟩
 unfold E2
 induction q:fd.body using FuncBody.casesOn with
 |stmts b=>rfl
 |expr _=>rw[q]at q1;exact nomatch q1
theorem a9(fd:FuncData)(e2:fd.body=.stmts (E2 fd))(e3:fd.globals=mainGlobals)(e4:fd.closure=[])(e5:fd.builtins=builtinsNs):
  fd=fnX fd.name fd.qualname fd.params (E2 fd) fd.scope [] fd.defaults fd.kwdefaults fd.doc fd.pyModule fd.annotations fd.code fd.closureTuple:=by
 unfold fnX
 rw[←e2,←e3,←e4,←e5]
theorem ND{c:Cx}{k:Nat}{a:Addr}{Af:Bool}{pargs locs cells:List Str}(h:kO c.K c.self a Af pargs locs cells=true)(hfad:c.fad[k]? =some a)
  (hb:∀args:List Value,args.length=((NE c.K a Af pargs locs cells).AC c.self).length→bindArgs (fdOf c.K a) ⟨args,[]⟩=pure (((NE c.K a Af pargs locs cells).AC c.self).zip args)):FnAt c k (NE c.K a Af pargs locs cells) a (fdOf c.K a).code:=by
 have p0:=Ac h
 have p1:=Ac p0.2
 have p2:=Ac p1.2
 have p3:=Ac p2.2
 have p4:=Ac p3.2
 have p5:=Ac p4.2
 have p6:=Ac p5.2
 have p7:=Ac p6.2
 have p8:=Ac p7.2
 have p9:=Ac p8.2
 have p10:=Ac p9.2
 have g4:∀n∈pargs++locs,(fdOf c.K a).scope.names.lookup n=some (cond (Bn cells n) .cell .local)∧(n==("__debug__":Str))=false∧(n==("__classdict__":Str))=false:=fun n hn=>
  have q:=Ac (zT.mp p4.1 n hn)
  have q2:=Ac q.2
  ⟨eq_of_beq q.1,BN q2.1,BN q2.2⟩
 refine{fad:=hfad,at_:=?_,code:=p1.1,keep:=p2.1,isFn:=p3.1,kinds:=fun n hn=>?_,skind:=fun hm=>?_,cnm:=eq_of_beq (Ac p6.1).1,cnd:=GR (Ac p6.1).2,co:=BN p7.1,gen:=BN p8.1,kind:=zX p9.1,nd:=GR p10.1,self:=fun hm=>?_,dbg:=fun n hn=>(g4 n hn).2}
 ·refine aa (bc p0.1) fun oc od osl e1 e2 e3 e4 e5=>?_
  have e6:=a9 _ e2 e3 e4 e5
  refine⟨(fdOf c.K a).defaults,(fdOf c.K a).kwdefaults,(fdOf c.K a).doc,(fdOf c.K a).pyModule,(fdOf c.K a).annotations,(fdOf c.K a).closureTuple,oc,od,osl,e1.trans (zy (fun fd=>some (Obj.mk oc od (.func fd) osl)) e6),fun args ha=>(zy (fun fd=>bindArgs fd ⟨args,[]⟩) e6).symm.trans (hb args ha)⟩
 ·have q:=(g4 n hn).1
  induction e:Bn cells n using za with
  |true=>rw[e]at q;exact .inr ⟨q,Bc e⟩
  |false=>rw[e]at q;exact .inl q
 ·have hm:Af=true:=hm
  have q:=p5.1
  rw[hm]at q
  exact eq_of_beq q
 ·have q:=BN p10.2
  rw[EV (show c.self∈pargs++locs from hm)]at q
  exact nomatch q
end Ag
end
namespace Ag
section
set_option maxHeartbeats 4000000
open PySem PySem.W PySem.Calls PyProof.Rows Builtin
structure Ow(h h':Heap)(e:Addr)(X:String):Prop where
 keeps:∀b o,h.get? b=some o→h'.get? b=some o
 new:h.get? e=none
 there:∃ob vs,h'.get? e=some ob∧ob.cls=.type X∧ob.data=.fields vs∧vs[1]? =some .none
theorem Ow.of{h h':Heap}{e:Addr}{X:String}(x:Heap.NewExc h h' e X):Ow h h' e X:=
 ⟨x.keeps,x.new,let⟨ob,_,a,b,c⟩:=x.there;⟨ob,_,a,b,c,rfl⟩⟩
structure fK(X N I:String)(k:Nat):Prop where
 notType:(Value.type X==Value.type "type")=false
 canNew:(((Manifest.find? X).bind (·.mro.findSome? fun(t:String)=>(Manifest.find? t).bind fun b=>if b.noNew then some true else if b.attrs.any (·.1=="__new__")then some false else none)).getD false)=false
 typeCall:∀rest:List Value,checkTypeCall X ⟨rest,[]⟩=pure ()
 mro:∃l,mroOf (.type X)=pure l∧l.isEmpty=false
 madeBy:Bind.madeBy (.type X)=pure (some N)
 newCheck:∀rest:List Value,checkBuiltinCall N ⟨.type X::rest,[]⟩=pure ()
 newEntry:entryFor table N=some Builtin.«BaseException.__new__»
 newPlain:plainId N=true
 newEnds:N.endsWith ".__new__"=true
 subOwner:isSubtype (.type X) (.type (N.dropRight 8))=pure true
 madeHere:Bind.madeHere "BaseException.__new__" (.type X)=pure ()
 few:k≤2
 own:(do
   if ←isSubtype (.type X) (.type "AttributeError")then return 2
   if ←isSubtype (.type X) (.type "NameError")then return 1
   return 0:Sem Nat)=pure k
 self:isSubtype (.type X) (.type X)=pure true
 init:Slot X "__init__" I
section
variable {prog:Program}{w:World}{A:Around}{E:Value→Shared→Prop}{s:Shared}{X N I:String}{k:Nat}
noncomputable abbrev Ny(X:String)(t:Addr)(k:Nat):Obj:={cls:=.type X,data:=.fields (#[.ref t,.none,.none,.none,.bool false,.none]++(List.replicate k (rawInt 0)).toArray)}
theorem hW(F:fK X N I k){rest:List Value}{Q:Value→Shared→Prop}(hr:rest.length≤sizeLine)
  (h:Q (.ref (s.heap.push {cls:=.type "tuple",data:=.seq rest.toArray}).objs.size) {s with heap:=(s.heap.push {cls:=.type "tuple",data:=.seq rest.toArray}).push (Ny X s.heap.objs.size k)}):
  wpAny (model prog w) A (call (.builtin N) (.type X::rest)) Q E s:=by
 refine call_builtin_at F.newPlain F.newEntry (F.newCheck rest) ?_
 unfold Builtin.«BaseException.__new__»
 refine PyProof.Rows.wpAt_bind (wpAt_owner rfl F.newEnds (PyProof.Rows.wpAt_of_any ?_))
 dsimp only
 refine zj (m:=isType _) (jT (a:=true) rfl ?_)
 simp only[Bool.not_true,jB,if_false]
 refine zj (jT F.subOwner ?_)
 simp only[Bool.not_true,jB,if_false]
 refine zj (jT F.madeHere ?_)
 refine zj (jT (a:=k) F.own ?_)
 unfold newTuple
 refine zj (wpAny_newObj_type (zj (wpAny_newObj_type (zF ⟨_,rfl,?_⟩) ?_)) (by show rest.toArray.size≤sizeLine;rw[zL];exact hr))
 ·exact h
 ·show(#[Value.ref s.heap.objs.size,Value.none,Value.none,Value.none,Value.bool false,Value.none]++(List.replicate k (rawInt 0)).toArray).size≤sizeLine+2
  have e:(List.replicate k (rawInt 0)).toArray.size=k:=by rw[zL];exact List.length_replicate ..
  rw[Array.size_append,e]
  show 6+k≤sizeLine+2
  have h1:=F.few
  have h2:=sizeLine_eq
  lia
theorem Wj(F:fK X N I k){rest:List Value}{b:Builtin}{Q:Value→Shared→Prop}(hr:rest.length≤sizeLine)(hI:entryFor table I=some b)
  (hck:∀{A:Around} {s:Shared} {Q:Unit→Shared→Prop} {E:Value→Shared→Prop} (e:Addr),s.TypeIs (.ref e) X→Q () s→wpAny (model prog w) A (checkBuiltinCall I ⟨.ref e::rest,[]⟩) Q E s)
  (hrun:∀{A:Around} {s:Shared} {Q:Value→Shared→Prop} {E:Value→Shared→Prop} (e t:Addr),s.heap.get? e=some (Ny X t k)→
   (∀h',(∀b o,b≠e→s.heap.get? b=some o→h'.get? b=some o)→(∃ob vs,h'.get? e=some ob∧ob.cls=.type X∧ob.data=.fields vs∧vs[1]? =some .none)→Q .none {s with heap:=h'})→
   wpAny (model prog w) A (b ⟨.ref e::rest,[]⟩) (fun fin s'=>∃v,fin=.done (.ret v)∧Q v s') E s)
  (hq:∀h' e,Ow s.heap h' e X→Q (.ref e) {s with heap:=h'}):wpAny (model prog w) A (call (.type X) rest) Q E s:=by
 refine Jg (codeAny_of_tree ?_)
 show wpAny _ _ (callAny (.type X) ⟨rest,[]⟩) _ _ s
 simp only[callAny]
 refine zF ⟨Code.quiet_builtin _ (by decide+kernel),codeAny_builtin entry_type_call ?_⟩
 rw[Around.under_plain (weight_type_call X _ _) (by first |rfl |kernel_rfl |decide+kernel)]
 unfold Builtin.«type.__call__»
 dsimp only
 rw[zR (by rw[F.notType];exact jp),zR (by rw[F.canNew];exact jp)]
 obtain⟨l,hl,hle⟩:=F.mro
 refine zj (jT (F.typeCall rest) (zj (jT hl ?_)))
 rw[zR (by rw[hle];exact jp)]
 refine zj (jT F.madeBy ?_)
 dsimp only
 refine zj (zF (zj (jw (hW F hr ?_))))
 have he:=Ja (s.heap.push {cls:=.type "tuple",data:=.seq rest.toArray}) (o:=Ny X s.heap.objs.size k) rfl
 refine zj (wpAny_isInstance (T:=X) ⟨_,he,rfl⟩ F.self ?_)
 simp only[Bool.not_true,jB,if_false]
 refine zj (jw (wpAny_callSpecial?_slot (name:=Str.ofString "__init__") (T:=X) ⟨_,he,rfl⟩ F.init (Jg (codeAny_call_builtin F.init.plain hI (hck _ ⟨_,he,rfl⟩ ?_)))))
 refine zW (hrun (Q:=fun v s'=>v=.none∧∃h',s'={s with heap:=h'}∧(∀b o,b≠(s.heap.push {cls:=.type "tuple",data:=.seq rest.toArray}).objs.size→((s.heap.push {cls:=.type "tuple",data:=.seq rest.toArray}).push (Ny X s.heap.objs.size k)).get? b=some o→h'.get? b=some o)∧(∃ob vs,h'.get? (s.heap.push {cls:=.type "tuple",data:=.seq rest.toArray}).objs.size=some ob∧ob.cls=.type X∧ob.data=.fields vs∧vs[1]? =some .none)) _ _ he fun h' k1 k2=>⟨rfl,h',rfl,k1,k2⟩) (fun fin s' hf=>?_) fun _ _ x=>x
 obtain⟨v,e1,e2,h',e3,k1,k2⟩:=hf
 subst e1;subst e2;subst e3
 dsimp only
 rw[zR (by simp)]
 refine zF (hq h' _ ⟨fun b o hb=>k1 b o ?_ (z6 _ (z6 _ hb)),Heap.get?_none_of_le (by simp),k2⟩)
 exact j5 (z4 (jD hb) (by simp))
end
theorem QP:fK "StopIteration" "Exception.__new__" "StopIteration.__init__" 0 where
 notType:=owsi_facts.notType
 canNew:=owsi_facts.canMake
 typeCall:=fun rest=>by kernel_rfl
 mro:=owsi_facts.mro
 madeBy:=owsi_facts.madeBy
 newCheck:=owsi_facts.newOk
 newEntry:=owsi_facts.entry
 newPlain:=by decide+kernel
 newEnds:=owsi_facts.ends
 subOwner:=by rw[zN];kernel_rfl
 madeHere:=owsi_facts.made
 few:=zY _
 own:=by simp only[owsi_facts.notAttr,owsi_facts.notName,pure_bind,jB,if_false]
 self:=owsi_facts.sub
 init:=owsi_facts.init
theorem K1:fK "AttributeError" "Exception.__new__" "AttributeError.__init__" 2 where
 notType:=by decide+kernel
 canNew:=by kernel_rfl
 typeCall:=fun rest=>by kernel_rfl
 mro:=⟨[.type "AttributeError",.type "Exception",.type "BaseException",.type "object"],by rw[mroOf_type];kernel_rfl,rfl⟩
 madeBy:=by kernel_rfl
 newCheck:=fun rest=>by kernel_rfl
 newEntry:=owsi_facts.entry
 newPlain:=by decide+kernel
 newEnds:=owsi_facts.ends
 subOwner:=by rw[zN];kernel_rfl
 madeHere:=by kernel_rfl
 few:=zu _
 own:=by rw[zN];kernel_rfl
 self:=by rw[zN];kernel_rfl
 init:=.of (owner:="AttributeError") (n:="__init__") (by rw[jW,jt];kernel_rfl) (by decide+kernel) (by decide+kernel) (by decide+kernel)
  (by first |exact .inl (by decide+kernel) |exact .inr (by decide+kernel)) (by rw[zN];kernel_rfl)
section
variable {prog:Program}{w:World}{A:Around}{E:Value→Shared→Prop}{s:Shared}
theorem OF{e t0:Addr}{ob:Obj}{vs:Array Value}{rest:List Value}{Q:PySem.Fin→Shared→Prop}(hr:rest.length≤sizeLine)(he:s.heap.get? e=some ob)(hd:ob.data=.fields vs)(h0:vs[0]? =some (.ref t0))
  (h:Q (.done (.ret .none)) {s with heap:=(s.heap.push {cls:=.type "tuple",data:=.seq rest.toArray}).update e (Obj.mapFields (·.setIfInBounds 0 (.ref s.heap.objs.size)))}):
  wpAny (model prog w) A (Builtin.«BaseException.__init__» ⟨.ref e::rest,[]⟩) Q E s:=by
 unfold Builtin.«BaseException.__init__»
 dsimp only
 rw[zR (by simp)]
 unfold newTuple Builtin.BaseException.bexcPut
 have hsz:0 < vs.size:=(Array.getElem?_eq_some_iff.mp h0).1
 have he₁:=z6 (h:=s.heap) {cls:=.type "tuple",data:=.seq rest.toArray} he
 refine zj (wpAny_newObj_type (zj (zj (wpAny_field he₁ hd h0 (zj (wpAny_setField he₁ hd hsz ?_))))) (by show rest.toArray.size≤sizeLine;rw[zL];exact hr))
 exact wpAny_letGo (zF h)
theorem Ea{h:Heap}{e:Addr}{X:String}{vs:Array Value}(he:h.get? e=some {cls:=.type X,data:=.fields vs})(i:Nat)(v:Value):(h.update e (Obj.mapFields (·.setIfInBounds i v))).get? e=some {cls:=.type X,data:=.fields (vs.setIfInBounds i v)}:=
 Heap.get?_update_self _ he rfl
theorem OI{v:Value}{Q:Value→Shared→Prop}(hq:∀h' e,Ow s.heap h' e "StopIteration"→Q (.ref e) {s with heap:=h'}):wpAny (model prog w) A (call (.type "StopIteration") [v]) Q E s:=by
 refine Wj QP (rest:=[v]) (by have:=sizeLine_eq;show 1≤sizeLine;lia) owsi_facts.initEntry (fun{A s Q E} e hT hQ=>?_) (fun{A s Q E} e t he hk=>?_) hq
 ·obtain⟨hp,g,d,tk,os⟩:=s
  exact owsi_check owsi_facts hT hQ
 ·unfold Builtin.«StopIteration.__init__»
  dsimp only
  refine zj (wpAny_runValue (codeAny_builtin owsi_facts.baseEntry (OF (rest:=[v]) (by have:=sizeLine_eq;show 1≤sizeLine;lia) he rfl rfl ?_)))
  have e1:=Ea (z6 {cls:=.type "tuple",data:=.seq ([v]:List Value).toArray} he) 0 (.ref s.heap.objs.size)
  unfold Builtin.Exceptions.excPut
  refine zj (zj (wpAny_field e1 rfl rfl (zj (wpAny_setField e1 rfl (by show 5 < 6;decide) ?_))))
  (try dsimp only)
  refine zF ?_
  have e2:=Ea e1 5 .none
  refine zj (wpAny_setField e2 rfl (by show 5 < 6;decide) ?_)
  have e3:=Ea e2 5 v
  refine zF ⟨_,rfl,hk _ (fun b o hb ho=>?_) ⟨_,_,e3,rfl,rfl,rfl⟩⟩
  rw[Heap.get?_update_other _ _ (Ne.symm hb),Heap.get?_update_other _ _ (Ne.symm hb),Heap.get?_update_other _ _ (Ne.symm hb)]
  exact z6 _ ho
theorem OH{v:Value}{Q:Value→Shared→Prop}(hq:∀h' e,Ow s.heap h' e "AttributeError"→Q (.ref e) {s with heap:=h'}):wpAny (model prog w) A (call (.type "AttributeError") [v]) Q E s:=by
 refine Wj K1 (rest:=[v]) (b:=Builtin.«AttributeError.__init__») (by have:=sizeLine_eq;show 1≤sizeLine;lia) (JD (by kernel_rfl)) (fun{A s Q E} e hT hQ=>?_) (fun{A s Q E} e t he hk=>?_) hq
 ·simp only[checkBuiltinCall,show builtinKind "AttributeError.__init__"=some .slot from by decide+kernel,show splitId "AttributeError.__init__"=some ("AttributeError","__init__")from by kernel_rfl]
  refine zj (wpAny_isInstance hT K1.self ?_)
  simp only[Bool.not_true,jB,if_false]
  exact jT (a:=()) (by kernel_rfl) hQ
 ·unfold Builtin.«AttributeError.__init__» Builtin.Exceptions.excInitWithMembers
  dsimp only
  unfold newTuple Builtin.Exceptions.excPut
  have he₁:=z6 (h:=s.heap) {cls:=.type "tuple",data:=.seq [v].toArray} he
  refine zj (wpAny_newObj_type (zj (zj (wpAny_field he₁ rfl rfl (zj (wpAny_setField he₁ rfl (by show 0 < 8;decide) ?_))))) (by show 1≤sizeLine;have:=sizeLine_eq;lia))
  refine wpAny_letGo ?_
  have e1:=Ea he₁ 0 (.ref s.heap.objs.size)
  refine zj (jT (a:=[rawInt 0,rawInt 0]) (by rfl) ?_)
  unfold Builtin.Exceptions.excSetOwn
  dsimp only
  refine zj (zj (wpAny_fieldsOf e1 rfl ?_))
  rw[zR (by exact fun h=>ft h)]
  simp only[List.zipIdx_cons,List.zipIdx_nil,Jc,List.forIn_nil,bind_assoc,pure_bind]
  unfold Builtin.Exceptions.excPut
  refine zj (zj (wpAny_field e1 rfl (by rfl) (zj (wpAny_setField e1 rfl (by show 6 < 8;decide) ?_))))
  refine zF ?_
  have e2:=Ea e1 6 (rawInt 0)
  refine zj (zj (wpAny_field e2 rfl (by rfl) (zj (wpAny_setField e2 rfl (by show 7 < 8;decide) ?_))))
  refine zF ?_
  have e3:=Ea e2 7 (rawInt 0)
  refine zF (zF ⟨_,rfl,hk _ (fun b o hb ho=>?_) ⟨_,_,e3,rfl,rfl,rfl⟩⟩)
  rw[Heap.get?_update_other _ _ (Ne.symm hb),Heap.get?_update_other _ _ (Ne.symm hb),Heap.get?_update_other _ _ (Ne.symm hb)]
  exact z6 _ ho
end
end
end Ag
section
open PySem PySem.W PySem.Calls PyProof.Rows
namespace Ag
section
set_option maxHeartbeats 4000000
noncomputable def Tm(T:String)(k:Nat):Prop:=∀{prog:Program} {w:World} {A:Around} {E:Value→Shared→Prop} {s:Shared} (rest:List Value) (Q:Value→Shared→Prop),rest.length=k→
 (∀h' e,Ow s.heap h' e T→Q (.ref e) {s with heap:=h'})→wpAny (model prog w) A (call (.type T) rest) Q E s
theorem EI{X N I:String}(hc:ExcClass X N I){k:Nat}(hk:k≤1):Tm X k:=fun rest Q h hq=>call_exc hc (fun h' e x=>hq h' e (.of x)) (by have:=sizeLine_eq;lia)
theorem bA{α:Type}{l:List α}(h:l.length=1):∃x,l=[x]:=by
 induction l using zo with
 |nil=>cases h
 |cons x r=>induction r using zo with
  |nil=>exact⟨x,rfl⟩
  |cons y r=>injection h with h;cases h
theorem OP:Tm "StopIteration" 1:=fun rest Q h hq=>zg (bA h) fun v e=>by rw[e];exact OI hq
theorem OO:Tm "AttributeError" 1:=fun rest Q h hq=>zg (bA h) fun v e=>by rw[e];exact OH hq
theorem Di{X:String}(h1:isSubtype (.type X) (.type "BaseException")=pure true)(h2:(Value.type ((Manifest.find? X).elim "type" fun x=>x.metatype)==Value.type "type")=true)(h3:isSubtype (.type X) (.type "Exception")=pure true):Hq X:=⟨⟨h1,h2⟩,h3⟩
structure PJ(T:String)(k:Nat):Prop where
 go:Tm T k
 t:Hq T
theorem T1:PJ "ValueError" 1:=⟨EI excClass_ValueError (zu 1),Di (by rw[zN];kernel_rfl) (by kernel_rfl) (by rw[zN];kernel_rfl)⟩
theorem T0:PJ "KeyError" 1:=⟨EI excClass_KeyError (zu 1),Di (by rw[zN];kernel_rfl) (by kernel_rfl) (by rw[zN];kernel_rfl)⟩
theorem TZ:PJ "IndexError" 1:=⟨EI excClass_IndexError (zu 1),Di (by rw[zN];kernel_rfl) (by kernel_rfl) (by rw[zN];kernel_rfl)⟩
theorem QR:PJ "StopIteration" 1:=⟨OP,Di (by rw[zN];kernel_rfl) (by kernel_rfl) (by rw[zN];kernel_rfl)⟩
theorem TY:PJ "AssertionError" 0:=⟨EI excClass_AssertionError (zY 1),Di (by rw[zN];kernel_rfl) (by kernel_rfl) (by rw[zN];kernel_rfl)⟩
theorem QQ:PJ "AttributeError" 1:=⟨OO,Di (by rw[zN];kernel_rfl) (by kernel_rfl) (by rw[zN];kernel_rfl)⟩
theorem QS:PJ "TypeError" 1:=⟨EI excClass_TypeError (zu 1),Di (by rw[zN];kernel_rfl) (by kernel_rfl) (by rw[zN];kernel_rfl)⟩
section
variable {c:Cx}{C:Cfg}{S:Sx}{d:Nat}
noncomputable def ao(c:Cx)(S:Sx)(d:Nat)(x:PySem.Expr):Prop:=∀(f:Fx) (A:Around) (X:AN→St→Prop) (R:Rec) (σ:St) (s:Shared),At c S d f A X R σ s→∀(E Q:Value→Shared→Prop),
 (∀e R' rv s',R.le R'→An s s'→Ap c f R' σ s'.heap→c.V R' (.exc e) rv→Q rv s')→wpAny (model c.prog c.w) A (eval x f.env) Q E s
theorem QL{f:Fx}{A:Around}{X:AN→St→Prop}{R:Rec}{σ:St}{s:Shared}{T:String}{k:Nat}(x:PJ T k)(a:At c S d f A X R σ s)(rest:List Value)(hl:rest.length=k){E Q:Value→Shared→Prop}
  (hq:∀e R' rv s',R.le R'→An s s'→Ap c f R' σ s'.heap→c.V R' (.exc e) rv→Q rv s'):wpAny (model c.prog c.w) A (call (.type T) rest) Q E s:=by
 refine x.go rest Q hl fun h' e n=>?_
 refine Av a.r fun m led r=>?_
 obtain⟨ob,vs,g,hc,hd,h1⟩:=n.there
 have ne:∀{b o},s.heap.get? b=some o→b≠e:=fun hb q=>by rw[q,n.new]at hb;cases hb
 have above:=r.F.above
 have F:Fr f.h₀ f.L h' m:=⟨r.F.ns.keeps n.keeps,fun b o hb=>n.keeps b o (r.F.keep b o hb),above⟩
 have N:News f.h₀ f.L h' ((e,ob)::led):=fun p hp=>by
  rcases zI.mp hp with q |hp
  ·subst q
   refine⟨g,fun q=>?_,?_⟩
   ·obtain⟨o,_,_,q',_⟩:=r.F.ns
    have q:e=f.L:=q
    rw[←q,n.new]at q';cases q'
   ·show f.h₀.get? e=none
    induction q:f.h₀.get? e using zh with
    |none=>rfl
    |some o=>exact absurd rfl (ne (r.F.keep _ _ q))
  ·have h:=r.N p hp
   exact⟨n.keeps _ _ h.1,h.2⟩
 refine Hm (r.I9 F N fun p hp=>ne (r.N p hp).1) fun R' le rn hzn _ _=>?_
 exact hq e R' _ _ le (Al (zu _)) ⟨_,_,rn⟩ (.exc (.inr hzn) (.mk T vs x.t hc hd h1))
theorem QM{n:Str}{T:String}(b:Ma c S n (.type T))(x:PJ T 0){q p:Pos}:ao c S d (.Call (.Name n q) [] [] p):=fun f A X R σ s a E Q hq=>by
 refine zj (IW a b (callWith_type0 ?_))
 exact QL x a [] rfl hq
theorem QN{n:Str}{T:String}(b:Ma c S n (.type T))(x:PJ T 1){y:PySem.Expr}{v:Val}{q p:Pos}(hy:AE c C d S (.lit v) y)(hp:Ah y=true):ao c S d (.Call (.Name n q) [y] [] p):=fun f A X R σ s a E Q hq=>by
 refine zj (IW a b (callWith_type1 (jf ?_ (Ab hp)) (Ab hp) rfl))
 refine hy f A (fun _ _=>False) R σ s (fun _ σ'=>σ'=σ) ({a with}) rfl _ _ (fun _ _ _ _ _ _ _ h=>h.elim) fun l σ' R' rv s' le sm hk r hl=>?_
 subst hk
 exact jI (QL x (a.up le sm r) [_] rfl fun e R'' rv s'' le' sm' r' hv=>hq e R'' rv s'' (le.trans le') (sm.trans sm') r' hv)
theorem XT{f:Fx}{A:Around}{X:AN→St→Prop}{σ:St}{pos:Pos}{E:Value→Shared→Prop}{xs:List PySem.Expr}:∀{R:Rec} {s:Shared} {Q:List Value→Shared→Prop},At c S d f A X R σ s→xs.all Ah=true→(∀x∈xs,ao c S d x)→
  (∀(es:List Addr) R' rvs s',es.length=xs.length→R.le R'→An s s'→Ap c f R' σ s'.heap→c.Vs R' (es.map Val.exc) rvs→Q rvs s')→wpAny (model c.prog c.w) A (spliced (backTo pos (starEach xs f.env))) Q E s:=by
 induction xs with
 |nil=>exact fun a _ _ hq=>jI (hq [] _ [] _ rfl (.refl _) (.refl _) a.r .nil)
 |cons x xs ih=>
  intro R s Q a hp hx hq
  rw[jP]at hp
  have hp:=Ac hp
  refine jf (hx x (.head _) f A X R σ s a E _ fun e R₁ rv s₁ le sm r hv=>?_) (Ab hp.1)
  refine ih (a.up le sm r) hp.2 (fun y hy=>hx y (.tail _ hy)) fun es R₂ rvs s₂ hl le₂ sm₂ r₂ hvs=>?_
  exact hq (e::es) R₂ (rv::rvs) s₂ (zy (· +1) hl) (le.trans le₂) (sm.trans sm₂) r₂ (.cons (V.up le₂ hv) hvs)
theorem Tc{es:List Addr}{n:Nat}(h:n < es.length):∃e,Mi (es.map Val.exc) (.ofNat n)=some (.exc e):=by
 refine⟨es[n],?_⟩
 show(es.map Val.exc)[n]? =_
 rw[Ju,jq h];rfl
theorem Zz{f:Fx}{A:Around}{X:AN→St→Prop}{R:Rec}{σ:St}{s:Shared}(a:At c S d f A X R σ s)(hm:S.Af=false){xs:List PySem.Expr}{ix:PySem.Expr}{e:Ag.E}{nf:Str}{i n:Nat}{p1 p2 p3 q:Pos}
  (hp:xs.all Ah=true) (hx:∀x∈xs,ao c S d x) (hl:xs.length≤AJ) (hi:S.names[i]? =some nf) (hfree:S.cs.names.lookup nf≠some .free) (ie:AE c C d S e ix) (hn:n < xs.length)
  (h:B2 C X e (fun l σ'=>l=.v (.int (.ofNat n))∧σ'=σ) σ) {Ev:Value→Shared→Prop} (xo:HT c f A R s X Ev) {Q:Flow→Shared→Prop}
  (hq:∀e R' s',R.le R'→An s s'→At c S d f A X R' (σ.BB i (.v (.exc e))) s'→Q .next s'):
  wpAny (model c.prog c.w) A (exec (.Assign [.Name nf q] (.Subscript (.List xs p1) ix p2) p3) f.env) Q Ev s:=by
 refine wpAny_Assign_Name (Subscript_ (List_ (XT a hp hx fun es R₁ rvs s₁ le₁ le sm r hvs=>?_))) (CA rfl)
 have a₁:=a.up le sm r
 refine Wx a₁ hvs (by rw[jb,le₁];exact hl) Ev _ fun R₂ rl s₂ le₂ sm₂ r₂ hrl=>?_
 have a₂:=a₁.up le₂ sm₂ r₂
 have le':=le.trans le₂
 have sm':=sm.trans sm₂
 refine ie f A X R₂ σ s₂ _ a₂ h Ev _ (xo.up le' sm') fun l σ' R₃ ri s₃ le₃ sm₃ hk r₃ hli=>?_
 refine Aw hk fun e1 e2=>?_
 subst e1;subst e2
 refine zg (AP (x:=.int (.ofNat n)) rfl hli).inv fun t et=>?_
 rw[et]
 refine zg (Tc (es:=es) (n:=n) (le₁▸hn)) fun e he=>?_
 refine WI r₃ (.of (V.up le₃ hrl)) (v:=.exc e) (i:=.ofNat n) (by exact he) Ev _ fun R₄ rv s₄ le₄ sm₄ r₄ hv=>?_
 refine Av r₄ fun m led r0=>?_
 have hsd:=a.lS hm
 have le4:=(le'.trans le₃).trans le₄
 exact Br a.G a.NM r0 (by rw[a.names];exact hi) (by rw[a.cs];exact hfree) (.v hv) fun s'' sm'' r''=>hq e R₄ s'' le4 (((sm'.trans sm₃).trans sm₄).trans sm'') (a.re hm (le4.sd.trans hsd) r'')
end
end
section
noncomputable def Rl(Pt:Addr):Rec:=⟨[],[],[],[(Pt,tabObj #[])],none⟩
theorem Ut{c:Cx}{f:Fx}{h:Heap}{m:Str→Option Value}{Pt:Addr}{cs:List (Addr×Obj)}{sn:Str}{rv:Value}{xs:List Val}{n:Nat}
  (hcl:f.cl.map (·.2)=cs.map (·.1)) (F:Fr f.h₀ f.L h m) (N:News f.h₀ f.L h (cs++[(Pt,tabObj #[])])) (hnd:(cs.map (·.1)++[Pt]).Nodup) (hco:∀p∈cs,∃v,p.2.data=.cell v) (hn0:f.names[0]? =some sn) (hs:f.cs.names.lookup sn=some .local) (hm:m sn=some rv) (hv:c.V (Rl Pt) (.seq false xs) rv)
  (B:c.B0.StaysIn f.h₀):Rel c f (Rl Pt) ⟨start [.seq false xs] n,[],[],[]⟩ h m (cs++[(Pt,tabObj #[])]):=by
 have nd:=zZ.mp hnd
 have mutC:∀{a},F6 f (Rl Pt) a→a∈cs.map (·.1):=fun{a} ha=>by
  rcases ha with ha |ha |ha |⟨x,ha⟩
  ·cases ha
  ·cases ha
  ·exact hcl▸ha
  ·cases ha
 refine{F:=F,N:=N,nd:=by rw[jh];exact hnd,slots:=fun k nm v hk hv'=>?_,clo:=fun nm a ha=>?_,self:=fun _ _ h=>(nomatch h),self0:=fun _=>rfl,ml:=fun a ha=>?_,hlen:=rfl,cells:=fun j fs hj=>(by induction j using zz <;>cases hj),oln:=rfl,owns:=fun k xs hk=>(by induction k using zz <;>cases hk),zs:=fun _ h=>(nomatch h),ex:=fun p hp=>?_,D1:=?_,D2:=fun _ _ h=>(nomatch h),D3:=fun a ha p hp=>?_,D4:=fun _ h=>(nomatch h),B:=B}
 ·refine Aa (Fw hv') fun x hx hq2=>?_;subst hq2
  induction k using zz with
  |zero=>
   rw[hn0]at hk;cases hk
   cases hx
   rw[hs]
   exact⟨rv,hm,.v hv⟩
  |succ k=>simp at hx
 ·have h1:a∈cs.map (·.1):=by rw[←hcl];exact lookup_mem ha
  refine Aa (zA.mp h1) fun p hp e=>?_
  refine zg (hco p hp) fun v hv=>⟨p.2,v,zk _ ?_,hv⟩
  rw[←e];exact hp
 ·rw[jh]
  exact zk _ (mutC ha)
 ·rw[zG.mp hp];exact zi _ (.head _)
 ·show(f.cl.map fun p:Str×Addr=>p.2).Nodup
  rw[hcl];exact nd.1
 ·have hp:p∈[(Pt,tabObj #[])]:=hp
  rw[zG.mp hp]
  exact fun e=>nd.2.2 a (mutC ha) Pt (.head _) e.symm
theorem Z8{M:Model}{Γ:Ctx}{env:Env}{b:List Stmt}{Q:Flow→Pos→Shared→Prop}{E:Value→Pos→Shared→Prop}:∀{a:List Stmt} {p:Pos} {s:Shared},Sem.wp M Γ (execs a env) (fun fl p' s'=>match fl with | .next=>Sem.wp M Γ (execs b env) Q E p' s' |f=>Q f p' s') E p s→Sem.wp M Γ (execs (a++b) env) Q E p s:=by
 intro a
 induction a with
 |nil=>exact fun h=>h
 |cons x a ih=>
  intro p s h
  rw[execs_cons,Sem.wp_bind']at h
  rw[JT,execs_cons,Sem.wp_bind']
  refine Sem.wp_mono M Γ _ (fun f p' s' h'=>?_) (fun _ _ _ h'=>h') _ _ h
  cases f with
  |next=>exact ih h'
  |_=>exact h'
theorem OQ{M:Model}{A:Around}{E:Value→Shared→Prop}{env:Env}{Q:Flow→Shared→Prop}{a b:List Stmt}{s:Shared}(h:wpAny M A (execs a env) (fun fl s'=>match fl with | .next=>wpAny M A (execs b env) Q E s' |f=>Q f s') E s):wpAny M A (execs (a++b) env) Q E s:=
 fun Γ p hΓ=>Z8 (Sem.wp_mono M Γ _ (fun f p' s' h'=>by
  cases f with
  |next=>exact h' Γ p' hΓ
  |_=>exact h') (fun _ _ _ h'=>h') _ _ (h Γ p hΓ))
noncomputable def NX:AN→St→Prop:=fun _ _=>False
noncomputable def Ky(N:St→Prop):Out→St→Prop:=fun o σ=>match o with | .next=>N σ |_=>False
noncomputable def X2(N:St→Prop)(σ:St):Prop:=BP (fz σ.own σ.loc) fun loc'=>N ⟨B1 loc',[],[],σ.heap⟩
noncomputable def Xm(C:Cfg)(ix:E)(i:Nat)(N:St→Prop)(σ:St):Prop:=∃n,n < 7∧B2 C NX ix (fun l σ'=>l=.v (.int (.ofNat n))∧σ'=σ) σ∧∀a,N (σ.BB i (.v (.exc a)))
noncomputable def Ht(loc:List (Option LV)):List (Option Nat×Int)→Option (List Val)
 |[]=>some []
 |(some i,_)::r=>match Ax loc i with |some (.v x)=>(match Ht loc r with |some ys=>some (x::ys) |none=>none) |_=>none
 |(none,k)::r=>match Ht loc r with |some ys=>some (.int k::ys) |none=>none
noncomputable def HI(C:Cfg)(j kf:Nat)(as:List (Option Nat×Int))(N:Val→St→Prop)(Y:AN→St→Prop)(σ:St):Prop:=
 ∃t fs xs,Ax σ.loc j=some (.v (.obj t))∧σ.heap[t]? =some (Ag.Cell.Ao fs)∧Ht σ.loc as=some xs∧
  C.call (2000+kf) fs (.int (.ofNat 6)::xs) (σ.heap.set t .taken) (fun r fs' h'=>N r (σ.BA (h'.set t (.Ao fs')))) (fun x fs' h'=>Y x (σ.BA (h'.set t (.Ao fs'))))
noncomputable def VS(C:Cfg)(j kf:Nat)(as:List (Option Nat×Int))(i ie k:Nat)(N:St→Prop)(σ:St):Prop:=
 ∃e₀,Ax σ.loc ie=some (.v (.exc e₀))∧σ.own=[]∧HI C j kf as (fun r σ'=>N (σ'.BB i (.v r))) (fun x σ'=>x=.user e₀∧F9 (CE σ.loc ie (.v (.ad e₀)))=true∧DK σ'.heap=true∧N ((σ'.BB ie (.v (.ad e₀))).BB k (.v (.ad e₀)))) σ
noncomputable def Nj(names:List Str):List (Cu×Pos)→List (Option Nat×Int)→Bool
 |[],l=>l.isEmpty
 |(.free n,_)::r,l=>(match l with |(some i,_)::l=>Nat.blt i names.length && (Aj names i==n && Nj names r l) |_=>false)
 |(.num k,_)::r,l=>(match l with |(none,j)::l=>FJ k j && Nj names r l |_=>false)
theorem Ni{names:List Str}{loc:List (Option LV)}{as:List (Cu×Pos)}:∀{l:List (Option Nat×Int)} {xs:List Val},Nj names as l=true→Ht loc l=some xs→L9 names loc as xs:=by
 induction as with
 |nil=>
  intro l xs h e
  induction l using zo with
  |nil=>exact(ze e).symm
  |cons _ _=>exact ft h
 |cons a as ih=>
  intro l xs h e
  obtain⟨a,p⟩:=a
  induction l using zo with
  |nil=>induction a using Cu.casesOn <;>exact ft h
  |cons b l=>
   obtain⟨b,j⟩:=b
   induction a using Cu.casesOn with
   |free n=>induction b using zh with
    |none=>exact ft h
    |some i=>
     have h1:=Ac h
     have h2:=Ac h1.2
     have e:(match Ax loc i with |some (.v x)=>(match Ht loc l with |some ys=>some (x::ys) |none=>none) |_=>none)=some xs:=e
     induction q:Ax loc i using zh with
     |none=>rw[q]at e;exact nz e
     |some v=>
      rw[q]at e
      induction v using LV.casesOn with
      |v x=>
       have e:(match Ht loc l with |some ys=>some (x::ys) |none=>none)=some xs:=e
       induction q2:Ht loc l using zh with
       |none=>rw[q2]at e;exact nz e
       |some ys=>
        rw[q2]at e
        exact⟨i,x,ys,(ze e).symm,(BU (CC h1.1)).trans (zy some (eq_of_beq h2.1)),q,ih h2.2 q2⟩
      |_=>exact nz e
   |num k=>induction b using zh with
    |some i=>exact ft h
    |none=>
     have h1:=Ac h
     have e:(match Ht loc l with |some ys=>some (Val.int j::ys) |none=>none)=some xs:=e
     induction q2:Ht loc l using zh with
     |none=>rw[q2]at e;exact nz e
     |some ys=>
      rw[q2]at e
      refine⟨ys,?_,ih h1.2 q2⟩
      rw[Mn h1.1]
      exact(ze e).symm
noncomputable def Up(T:Tb)(L:Cv)(j i' kf:Nat)(k:Nat):Stmt:=.Assign [.Name (Aj T.names i') (T.p (k+1))] (.Call (.Attribute (.Name (Aj T.names j) (T.p (k+4))) (Aj T.C2 kf) (T.q (k+3) (k+2))) [.Lambda L.params L.body L.scope (T.p (k+5))] [] (T.p (k+2))) (T.p k)
noncomputable def fm(T:Tb)(L:Cv)(j i' kf ik:Nat)(met:Str)(k:Nat):Stmt:=.Try [Up T L j i' kf (k+6)] [.ExceptHandler (some (.Name "Exception" (T.p (k+2)))) (some met) [.Assign [.Name (Aj T.names ik) (T.p (k+4))] (.Name met (T.p (k+5))) (T.p (k+3))] (T.p (k+1))] [] [] (T.p k)
noncomputable def gP(T:Tb)(n:Str)(v:Option Val)(k:Nat):PySem.Expr:=.Call (.Name n (T.p (k+1))) (match v with |some v=>[BO T (.lit v) (k+2)] |none=>[]) [] (T.p k)
noncomputable def QO(T:Tb):List (Str×Option Val)→Nat→List PySem.Expr
 |[],_=>[]
 |(n,v)::r,k=>gP T n v k::QO T r (k+3)
noncomputable def gN(T:Tb)(l:List (Str×Option Val))(ix:E)(i k ki:Nat):Stmt:=.Assign [.Name (Aj T.names i) (T.p (k+1))] (.Subscript (.List (QO T l (k+4)) (T.p (k+3))) (BO T ix ki) (T.p (k+2))) (T.p k)
theorem Mr{T:Tb}{l:List (Str×Option Val)}:∀{k:Nat},(QO T l k).all Ah=true:=by
 induction l with
 |nil=>exact rfl
 |cons _ _ ih=>intro k;exact ih
theorem KZ{T:Tb}{l:List (Str×Option Val)}:∀{k:Nat},(QO T l k).length=l.length:=by
 induction l with
 |nil=>exact rfl
 |cons _ _ ih=>intro k;exact zy (· +1) ih
noncomputable def Mf(c:Cx)(S:Sx)(T:Tb):List (Str×Option Val)→Prop
 |[]=>True
 |(n,v)::r=>(∃t,Ma c S n (.type t)∧(match v with |some v=>PJ t 1∧CF T (.lit v)=true |none=>PJ t 0))∧Mf c S T r
theorem TX{c:Cx}{C:Cfg}{S:Sx}{T:Tb}{d:Nat}{l:List (Str×Option Val)}:∀{k:Nat},Mf c S T l→∀x∈QO T l k,ao c S d x:=by
 induction l with
 |nil=>intro k _ x hx;cases hx
 |cons a r ih=>
  obtain⟨n,v⟩:=a
  intro k h x hx
  rcases zI.mp hx with e |hx
  ·obtain⟨⟨t,b,h⟩,_⟩:=h
   rw[e]
   induction v using zh with
   |none=>exact QM b h
   |some v=>exact QN (C:=C) b h.1 (R4 (S:=S) (T:=T) v (k+2) h.2).1 (AA T _ _)
  ·exact ih h.2 x hx
theorem EZ{c:Cx}{P:Kx}{d:Nat}{S:Sx}{T:Tb}(ok:Dy c)(HC:AM c (Bs P d) d c.mth)(W:Tq c (Bs P d) d S T){ss:Ss}{k:Nat}(hc:DN T ss k=true){f:Fx}{A:Around}{R:Rec}{σ:St}{s:Shared}{N:St→Prop}
  (a:At c S d f A NX R σ s) (hw:Au (Bs P d) NX ss (Ky N) σ) {b:List Stmt} {Q:Flow→Shared→Prop}
  (hq:∀σ' R' s',An s s'→At c S d f A NX R' σ' s'→R'.ex=R.ex→N σ'→wpAny (model c.prog c.w) A (execs b f.env) Q (fun _ _=>False) s'):wpAny (model c.prog c.w) A (execs (BR T ss k++b) f.env) Q (fun _ _=>False) s:=by
 refine OQ (SM W ok HC ss k hc f A NX R σ s _ a hw _ _ ⟨fun _ _ _ _ _ _ _ h=>h.elim,.never⟩ fun o σ' R' fl s' le sm hk rx hfl=>?_)
 induction o using Out.casesOn with
 |next=>
  rw[hfl.RH]
  exact hq σ' R' s' sm (a.up le sm rx) le.ex hk
 |_=>exact hk.elim
theorem last_run{c:Cx}{P:Kx}{d:Nat}{S:Sx}{T:Tb}(ok:Dy c)(HC:AM c (Bs P d) d c.mth)(W:Tq c (Bs P d) d S T){ss:Ss}{k:Nat}(hc:DN T ss k=true){f:Fx}{A:Around}{R:Rec}{σ:St}{s:Shared}
  (a:At c S d f A NX R σ s) (hw:Au (Bs P d) NX ss (Ef fun r _ _=>r=.bool true) σ) {Pt:Addr} {ps:List Value} (hp:(Pt,tabObj ps.toArray)∈R.ex) {Q:Flow→Shared→Prop}
  (hq:∀s' m',Fr f.h₀ f.L s'.heap m'→An s s'→s'.heap.get? Pt=some (tabObj ps.toArray)→Q (.ret (.bool true)) s'):wpAny (model c.prog c.w) A (execs (BR T ss k) f.env) Q (fun _ _=>False) s:=by
 refine SM W ok HC ss k hc f A NX R σ s _ a hw _ _ ⟨fun _ _ _ _ _ _ _ h=>h.elim,.never⟩ fun o σ' R' fl s' le sm hk rx hfl=>?_
 refine Av rx fun m' led' r'=>?_
 have hpt:s'.heap.get? Pt=some (tabObj ps.toArray):=r'.BE (r'.ex _ (by rw[le.ex];exact hp))
 have fin:∀{lv:LV} {rv:Value},OL (fun r _ _=>r=.bool true) lv σ'→LR c R' lv rv→rv=.bool true:=fun{lv rv} hk hl=>by
  refine Aa (Ad hk) fun x hx hk=>?_
  refine Aa (Ad hk) fun fs _ hk=>?_
  subst hk
  induction hl using LR.casesOn with
  |v y=>cases hx;cases y;rfl
  |@loc k2 a2 _=>
   simp only[look]at hx
   induction q:Fk σ'.own k2 using zh with
   |none=>rw[q]at hx;cases hx
   |some _=>rw[q]at hx;cases hx
  |app _ _=>cases hx
  |cb _=>cases hx
 induction hfl using IO.casesOn with
 |next=>
  refine Aa (Ad hk) fun fs _ hk=>?_
  cases hk
 |brk=>exact hk.elim
 |cont=>exact hk.elim
 |ret hl=>rw[fin hk hl];exact hq s' m' r'.F sm hpt
structure KD(c:Cx)(f:Fx)(T:Tb)(Pt cc:Addr)(L:Cv)(clos:List (Str×Addr))(as:List (Option Nat×Int)):Prop where
 la:KB c f L Pt cc clos
 mem:L∈c.lams
 as:Nj T.names L.args as=true
section
variable {c:Cx}{P:Kx}{Ds:List (Dd×Addr×Value)}{d:Nat}{f:Fx}{A:Around}{T:Tb}{S:Sx}{Pt cc:Addr}{D:Dd}{ad:Addr}{cdv:Value}{fn:Fn}{j kf:Nat}{L:Cv}{clos:List (Str×Addr)}{as:List (Option Nat×Int)}{R:Rec}{σ:St}{s:Shared}{N:St→Prop}{tb:List (Pos×Addr)}
theorem I8{T:Tb}{i k:Nat}(h:Nat.beq (T.p i).line (T.p k).line=false):(T.p i).line≠(T.p k).line:=fun e=>by rw[e,jA]at h;cases h
theorem Lj(W:Tq c (Bs P (d+1)) (d+1) S T)(I:KC c (Bs P (d+1)) (Bs P d) P d Ds kf D ad cdv fn)(hm0:S.Af=false)(hN:f.names=S.names)(hj:Nat.blt j T.names.length=true)(hkf:kf < T.mtn){i k:Nat}(hi:Nat.blt i T.names.length=true)
  (l:KD c f T Pt cc L clos as) (hP:(Pt,tabObj (tabOf tb).toArray)∈R.ex) (htb:∀q∈tb,q.1.line≠(T.p (k+5)).line) (a:At c S (d+1) f A NX R σ s) (hw:HI (Bs P (d+1)) j kf as (fun r σ'=>N (σ'.BB i (.v r))) NX σ) {b:List Stmt} {Q:Flow→Shared→Prop}
  (hq:∀σ' R' s' c',An s s'→At c S (d+1) f A NX R' σ' s'→(Pt,tabObj (tabOf (tb++[(T.p (k+5),c')])).toArray)∈R'.ex→N σ'→wpAny (model c.prog c.w) A (execs b f.env) Q (fun _ _=>False) s'):
  wpAny (model c.prog c.w) A (execs (Up T L j i kf k::b) f.env) Q (fun _ _=>False) s:=by
 obtain⟨t,fs,xs,h1,h2,h3,h4⟩:=hw
 have hnm:f.names=T.names:=hN.trans W.O.names
 refine wpAny_execs_cons (SN (X':=fun _ _ _=>False) I a hm0 l.mem (A7 W.O hj) (A7 W.O hi) (DB W hi) (W.O.mt kf hkf) (BS ..) l.la h1 h2 (Ni (by rw[hnm];exact l.as) h3) hP (Hg htb) h4 (fun r fs' h' R' s' c' hk sm a' hp=>hq _ R' s' c' sm a' hp hk) fun _ _ _ _ _ _ _ _ _ _ _ _ h=>h.elim)
theorem S3(W:Tq c (Bs P (d+1)) (d+1) S T)(I:KC c (Bs P (d+1)) (Bs P d) P d Ds kf D ad cdv fn)(hm0:S.Af=false)(hN:f.names=S.names)(hj:Nat.blt j T.names.length=true)(hkf:kf < T.mtn){i ie ik k:Nat}{met:Str}(hi:Nat.blt i T.names.length=true)(hie:Nat.blt ie T.names.length=true)(hik:Nat.blt ik T.names.length=true)
  (l:KD c f T Pt cc L clos as) (hP:(Pt,tabObj (tabOf tb).toArray)∈R.ex) (htb:∀q∈tb,q.1.line≠(T.p (k+6+5)).line) (hout:A.frames=some [f.env]) (hkc:Bn T.cells (Aj T.names ik)=false) (hmet:S.cs.names.lookup met=some .local) (hmn:Bn T.names met=false) (hmd:(met==("__debug__":Str))=false) (bE:Ma c S "Exception" (.type "Exception"))
  (a:At c S (d+1) f A NX R σ s) (hw:VS (Bs P (d+1)) j kf as i ie ik N σ) {b:List Stmt} {Q:Flow→Shared→Prop}
  (hq:∀σ' R' s' c',An s s'→At c S (d+1) f A NX R' σ' s'→(Pt,tabObj (tabOf (tb++[(T.p (k+6+5),c')])).toArray)∈R'.ex→N σ'→wpAny (model c.prog c.w) A (execs b f.env) Q (fun _ _=>False) s'):
  wpAny (model c.prog c.w) A (execs (fm T L j i kf ik met k::b) f.env) Q (fun _ _=>False) s:=by
 obtain⟨e₀,g1,g2,t,fs,xs,h1,h2,h3,h4⟩:=hw
 have hnm:f.names=T.names:=hN.trans W.O.names
 refine wpAny_execs_cons (ZC I a hm0 l.mem (A7 W.O hj) (A7 W.O hi) (DB W hi) (W.O.mt kf hkf) (BS ..) l.la h1 h2 (Ni (by rw[hnm];exact l.as) h3) hP (Hg htb) h4 hout (A7 W.O hik) (W.locl _ (DM (CC hik)) hkc) hmet (fun hm=>by rw[W.O.names]at hm;rw[EV hm]at hmn;cases hmn) hmd (A7 W.O hie) g1 g2 bE (fun e fs' h' hx=>?_) (fun r fs' h' R' s' c' hk sm a' hp=>hq _ R' s' c' sm a' hp hk) fun fs' h' R' s' c' hx sm a' hp=>hq _ R' s' c' sm a' hp hx.2.2.2)
 exact⟨by cases hx.1;rfl,hx.2.1,hx.2.2.1⟩
structure Du where
 s1:Ss
 s2:Ss
 s3:Ss
 s4:Ss
 s5:Ss
 s6:Ss
 ix:E
 el:List (Str×Option Val)
 k2:Nat
 ke:Nat
 ki:Nat
 k3:Nat
 kl:Nat
 k4:Nat
 kt:Nat
 k5:Nat
 kn:Nat
 k6:Nat
 L1:Cv
 L2:Cv
 L3:Cv
 a1:List (Option Nat×Int)
 a2:List (Option Nat×Int)
 a3:List (Option Nat×Int)
 met:Str
noncomputable def Du.W6(t:Du)(C:Cfg):St→Prop:=Au C NX t.s6 (Ef fun r _ _=>r=.bool true)
noncomputable def Du.W5(t:Du)(C:Cfg):St→Prop:=Au C NX t.s5 (Ky (HI C 10 3 t.a3 (fun r σ=>t.W6 C (σ.BB 20 (.v r))) NX))
noncomputable def Du.W4(t:Du)(C:Cfg):St→Prop:=Au C NX t.s4 (Ky (VS C 10 3 t.a2 18 13 17 (t.W5 C)))
noncomputable def Du.W3(t:Du)(C:Cfg):St→Prop:=Au C NX t.s3 (Ky (HI C 10 3 t.a1 (fun r σ=>t.W4 C (σ.BB 15 (.v r))) NX))
noncomputable def Du.W2(t:Du)(C:Cfg):St→Prop:=Au C NX t.s2 (Ky (Xm C t.ix 13 (t.W3 C)))
noncomputable def Du.W(t:Du)(C:Cfg):St→Prop:=Au C NX t.s1 (Ky (X2 (t.W2 C)))
noncomputable def Du.text(t:Du)(T:Tb):List Stmt:=BR T t.s1 0++(BR T t.s2 t.k2++(gN T t.el t.ix 13 t.ke t.ki::(BR T t.s3 t.k3++(Up T t.L1 10 15 3 t.kl::(BR T t.s4 t.k4++(fm T t.L2 10 18 3 17 t.met t.kt::(BR T t.s5 t.k5++(Up T t.L3 10 20 3 t.kn::BR T t.s6 t.k6))))))))
noncomputable def Du.lL(t:Du)(T:Tb):Bool:=DN T t.s1 0 && (DN T t.s2 t.k2 && (DN T t.s3 t.k3 && (DN T t.s4 t.k4 && (DN T t.s5 t.k5 && (DN T t.s6 t.k6 && (CF T t.ix && (Nat.blt 23 T.names.length &&
 (!Nat.beq (T.p (t.kl+5)).line (T.p (t.kt+6+5)).line && (!Nat.beq (T.p (t.kl+5)).line (T.p (t.kn+5)).line && (!Nat.beq (T.p (t.kt+6+5)).line (T.p (t.kn+5)).line && (!Bn T.cells (Aj T.names 17) && (!Bn T.names t.met && (!(t.met==("__debug__":Str)) && Nat.beq t.el.length 7)))))))))))))
theorem Yd{t:Du}(ok:Dy c)(HC:AM c (Bs P (d+1)) (d+1) c.mth)(W:Tq c (Bs P (d+1)) (d+1) S T)(hc:t.lL T=true)(G:L8 c f A (d+1))(NM:E4 c f)(hN:f.names=S.names)(hS:f.cs=S.cs)(hm0:S.Af=false)
  (I:KC c (Bs P (d+1)) (Bs P d) P d Ds 3 D ad cdv fn) (hkf:3 < T.mtn) {clos1 clos2 clos3:List (Str×Addr)} (l1:KD c f T Pt cc t.L1 clos1 t.a1) (l2:KD c f T Pt cc t.L2 clos2 t.a2) (l3:KD c f T Pt cc t.L3 clos3 t.a3) (hx:Mf c S T t.el)
  (hout:A.frames=some [f.env]) (hmet:S.cs.names.lookup t.met=some .local) (bE:Ma c S "Exception" (.type "Exception"))
  {m:Str→Option Value} {cs:List (Addr×Obj)} {sn:Str} {rv:Value} {xs:List Val} {nloc:Nat} (hcl:f.cl.map (·.2)=cs.map (·.1)) (F:Fr f.h₀ f.L s.heap m) (N:News f.h₀ f.L s.heap (cs++[(Pt,tabObj #[])])) (hnd:(cs.map (·.1)++[Pt]).Nodup) (hco:∀p∈cs,∃v,p.2.data=.cell v)
  (hn0:f.names[0]? =some sn) (hs:f.cs.names.lookup sn=some .local) (hm:m sn=some rv) (hv:c.V (Rl Pt) (.seq false xs) rv) (B:c.B0.StaysIn f.h₀) (hw:t.W (Bs P (d+1)) ⟨start [.seq false xs] nloc,[],[],[]⟩)
  {Ev:Value→Shared→Prop} {Q:Flow→Shared→Prop} (hq:∀s' m' ps,Fr f.h₀ f.L s'.heap m'→An s s'→s'.heap.get? Pt=some (tabObj ps)→Q (.ret (.bool true)) s'):wpAny (model c.prog c.w) A (execs (t.text T) f.env) Q Ev s:=by
 have r:=Ut (n:=nloc) hcl F N hnd hco hn0 hs hm hv B
 have a:At c S (d+1) f A NX (Rl Pt) ⟨start [.seq false xs] nloc,[],[],[]⟩ s:=⟨G,NM,hN,hS,by rw[hm0];rfl,fun h=>(by rw[hm0]at h;cases h),⟨m,_,r⟩⟩
 have c1:=Ac hc
 have c2:=Ac c1.2
 have c3:=Ac c2.2
 have c4:=Ac c3.2
 have c5:=Ac c4.2
 have c6:=Ac c5.2
 have c7:=Ac c6.2
 have c8:=Ac c7.2
 have c9:=Ac c8.2
 have c10:=Ac c9.2
 have c11:=Ac c10.2
 have c12:=Ac c11.2
 have c13:=Ac c12.2
 have c14:=Ac c13.2
 have b:∀{i:Nat},i≤23→Nat.blt i T.names.length=true:=fun h=>zD (jm h (CC c8.1))
 have e7:=zw c14.2
 refine zW (Q:=Q) (E:=fun _ _=>False) ?_ (fun _ _ h=>h) fun _ _ h=>h.elim
 refine EZ ok HC W c1.1 a hw fun σ₁ R₁ s₁ sm₁ a₁ x₁ hk=>?_
 refine Aa (Ad hk) fun loc' hfz hk=>?_
 refine Aa (a₁.freeze hm0 hfz) fun R₂ a₂ x₂=>?_
 refine EZ ok HC W c2.1 a₂ hk fun σ₃ R₃ s₃ sm₃ a₃ x₃ hk=>?_
 obtain⟨n,n1,n2,hk⟩:=hk
 refine wpAny_execs_cons (Zz (S:=S) (e:=t.ix) (n:=n) a₃ hm0 Mr (TX (C:=Bs P (d+1)) hx) (by rw[KZ,e7];have:=Bk;lia) (A7 W.O (b (i:=13) (by decide))) (DB W (b (i:=13) (by decide))) (QD W.O ok HC t.ix t.ki c7.1).1 (by rw[KZ,e7];exact n1) n2 (fun _ _ _ _ _ _ _ h=>h.elim) fun e R₄ s₄ le₄ sm₄ a₄=>?_)
 refine EZ ok HC W c3.1 a₄ (hk e) fun σ₅ R₅ s₅ sm₅ a₅ x₅ hk=>?_
 refine Lj (tb:=[]) W I hm0 hN (b (by decide)) hkf (b (by decide)) l1 (by rw[x₅,le₄.ex,x₃,x₂,x₁];exact .head _) (fun _ h=>nomatch h) a₅ hk fun σ₆ R₆ s₆ c₆ sm₆ a₆ p₆ hk=>?_
 refine EZ ok HC W c4.1 a₆ hk fun σ₇ R₇ s₇ sm₇ a₇ x₇ hk=>?_
 refine S3 W I hm0 hN (b (by decide)) hkf (b (by decide)) (b (by decide)) (b (by decide)) l2 (by rw[x₇];exact p₆) (fun q h=>?_) hout (BN c12.1) hmet (BN c13.1) (BN c14.1) bE a₇ hk fun σ₈ R₈ s₈ c₈ sm₈ a₈ p₈ hk=>?_
 ·rw[zG.mp h];exact I8 (BN c9.1)
 refine EZ ok HC W c5.1 a₈ hk fun σ₉ R₉ s₉ sm₉ a₉ x₉ hk=>?_
 refine Lj W I hm0 hN (b (by decide)) hkf (b (by decide)) l3 (by rw[x₉];exact p₈) (fun q h=>?_) a₉ hk fun σ₀ R₀ s₀ c₀ sm₀ a₀ p₀ hk=>?_
 ·rcases zI.mp h with e |h
  ·rw[e];exact I8 (BN c10.1)
  ·rw[zG.mp h];exact I8 (BN c11.1)
 have smm:=((((((((sm₁.trans sm₃).trans sm₄).trans sm₅).trans sm₆).trans sm₇).trans sm₈).trans sm₉).trans sm₀)
 exact last_run ok HC W c6.1 a₀ hk p₀ fun s' m' F' sm' hp=>hq s' m' _ F' (smm.trans sm') hp
end
end
section
noncomputable def eW(s:Str)(t:Txt):Bool:=Bo s.cps.toList t
theorem Vw{s:Str}{t:Txt}(h:eW s t=true):s=⟨t.toArray⟩:=by
 obtain⟨a⟩:=s
 have e:a.toList=t:=Kv h
 rw[←e]
noncomputable def onSeq(o:Option Obj)(g:String→List Value→Bool):Bool:=match o with
 |some ⟨.type k,none,.seq vs _,_⟩=>g k vs.toList
 |_=>false
noncomputable def MJ(o:Option Obj)(g:String→List Value→Array (Option Value)→Bool):Bool:=match o with
 |some ⟨.type k,none,.fields vs,sl⟩=>g k vs.toList sl
 |_=>false
noncomputable def RR(o:Option Obj)(g:Addr→List DictEntry→Bool):Bool:=match o with
 |some ⟨.ref C,_,.dict es _,_⟩=>g C es.toList
 |_=>false
theorem LB{o:Option Obj}{g:String→List Value→Bool}(h:onSeq o g=true):∃k vs n sl,o=some ⟨.type k,none,.seq ⟨vs⟩ n,sl⟩∧g k vs=true:=by
 induction o using zh with
 |none=>exact ft h
 |some o=>
  obtain⟨cls,d,dat,sl⟩:=o
  cases cls with
  |type k=>induction d using zh with
   |none=>cases dat with
    |seq vs n=>exact⟨k,vs.toList,n,sl,rfl,h⟩
    |_=>exact ft h
   |some _=>exact ft h
  |_=>exact ft h
theorem Ij{o:Option Obj}{g:String→List Value→Array (Option Value)→Bool}(h:MJ o g=true):∃k vs sl,o=some ⟨.type k,none,.fields ⟨vs⟩,sl⟩∧g k vs sl=true:=by
 induction o using zh with
 |none=>exact ft h
 |some o=>
  obtain⟨cls,d,dat,sl⟩:=o
  cases cls with
  |type k=>induction d using zh with
   |none=>cases dat with
    |fields vs=>exact⟨k,vs.toList,sl,rfl,h⟩
    |_=>exact ft h
   |some _=>exact ft h
  |_=>exact ft h
theorem Pc{o:Option Obj}{g:Addr→List DictEntry→Bool}(h:RR o g=true):∃C d es n sl,o=some ⟨.ref C,d,.dict es n,sl⟩∧g C es.toList=true:=by
 induction o using zh with
 |none=>exact ft h
 |some o=>
  obtain⟨cls,d,dat,sl⟩:=o
  cases cls with
  |ref C=>cases dat with
   |dict es n=>exact⟨C,d,es,n,sl,rfl,h⟩
   |_=>exact ft h
  |_=>exact ft h
section
variable (K:Frag)
mutual
noncomputable def VX:Val→Value→Bool
 | .none,v=>(match v with | .none=>true |_=>false)
 | .bool a,v=>(match v with | .bool b=>cond a b (!b) |_=>false)
 | .int i,v=>(match v with | .int j _=>FJ i j |_=>false)
 | .str t,v=>(match v with | .str s _=>eW s t && Nat.ble t.length AJ |_=>false)
 | .seq tup xs,v=>(match v with | .ref a=>onSeq (K.lookup a) fun k vs=>k==kindS tup && (Nat.ble xs.length AJ && Oo xs vs) |_=>false)
 |_,_=>false
noncomputable def Oo:List Val→List Value→Bool
 |[],l=>l.isEmpty
 |x::xs,l=>(match l with |v::vs=>VX x v && Oo xs vs |[]=>false)
end
end
section
variable {PC:Addr}{Z:Addr→Obj→Prop}{ρ:List Addr}{K:Frag}
theorem VY(hZ:∀a o,K.lookup a=some o→(∀vs,o.data≠ .fields vs)→Z a o):∀(x:Val) (v:Value),VX K x v=true→VR PC Z ρ x v:=by
 refine@Val.rec (fun x=>∀v,VX K x v=true→VR PC Z ρ x v) (fun xs=>∀vs,Oo K xs vs=true→AU PC Z ρ xs vs) ?_ ?_ ?_ ?_ ?_ ?_ ?_ ?_ ?_ ?_ ?_ ?_
 ·intro v h
  cases v with
  |none=>exact .none
  |_=>exact ft h
 ·intro a v h
  cases v with
  |bool b=>rw[I0 h];exact .bool _
  |_=>exact ft h
 ·intro i v h
  cases v with
  |int j t=>rw[Mn h];exact .int _ _
  |_=>exact ft h
 ·intro t v h
  cases v with
  |str s k=>rw[Vw (Ac h).1];exact .str _ _ (Cn (Ac h).2)
  |_=>exact ft h
 ·intro tup xs ih v h
  cases v with
  |ref a=>
   refine Nf (LB (o:=K.lookup a) (g:=fun k vs=>k==kindS tup && (Nat.ble xs.length AJ && Oo K xs vs)) h) fun k vs n sl e h=>?_
   have h:=Ac h
   have h2:=Ac h.2
   exact .seq (vs:=vs) (n:=n) ⟨_,hZ _ _ e nofun,zy Value.type (eq_of_beq h.1),rfl⟩ (Cn h2.1) (ih vs h2.2)
  |_=>exact ft h
 ·exact fun _ _ h=>ft h
 ·exact fun _ _ _ h=>ft h
 ·exact fun _ _ h=>ft h
 ·exact fun _ _ h=>ft h
 ·exact fun _ _ h=>ft h
 ·intro vs h
  induction vs using zo with
  |nil=>exact .nil
  |cons _ _=>exact ft h
 ·intro x xs i1 i2 vs h
  induction vs using zo with
  |nil=>exact ft h
  |cons v vs=>exact .cons (i1 v (Ac h).1) (i2 vs (Ac h).2)
end
noncomputable def RS(o:Option (Option Value))(g:Value→Bool):Bool:=match o with
 |some (some v)=>g v
 |_=>false
theorem Pd{o:Option (Option Value)}{g:Value→Bool}(h:RS o g=true):∃v,o=some (some v)∧g v=true:=by
 induction o using zh with
 |none=>exact ft h
 |some o=>induction o using zh with
  |none=>exact ft h
  |some v=>exact⟨v,rfl,h⟩
noncomputable def kP(K:Frag)(gl:List (Str×Val)):Bool:=gl.all fun p=>RS (nsIn K mainGlobals p.1) (VX K p.2)
theorem bj{c:Cx}(hB:∀a o,c.K.lookup a=some o→c.B0.get? a=some o)(h:kP c.K c.gl=true):ap c:=by
 intro n v hm
 refine Aa (Pd (zT.mp h (n,v) hm)) fun rv e h=>?_
 exact⟨rv,e,fun R=>VY (fun a o e n=>.inl ⟨hB a o e,n⟩) v rv h⟩
noncomputable def gp{α:Type}(o:Option α)(g:α→Bool):Bool:=match o with
 |some v=>g v
 |none=>false
theorem MK{α:Type}{o:Option α}{g:α→Bool}(h:gp o g=true):∃v,o=some v∧g v=true:=by
 induction o using zh with
 |none=>exact ft h
 |some v=>exact⟨v,rfl,h⟩
noncomputable def kL(K:Frag)(PC:Addr)(n:Str):Bool:=plainGet K PC n && (hasDictIn K PC && (gp (findIn K (.ref PC) n) (noGet K) &&
 ((findIn K (.ref PC) "__setattr__"==some (some (.builtin "object.__setattr__"))) && (plainOver K PC && (takerIn K PC n==some none)))))
theorem aF{c:Cx}{n:Str}(h:kL c.K c.PC n=true):PO c n:=by
 have h1:=Ac h
 have h2:=Ac h1.2
 have h3:=Ac h2.2
 have h4:=Ac h3.2
 have h5:=Ac h4.2
 exact⟨h1.1,h2.1,MK h3.1,eq_of_beq h4.1,h5.1,eq_of_beq h5.2⟩
noncomputable def hR(K:Frag)(PC:Addr)(attrs:List Str)(n:Str)(a:Addr):Bool:=(findIn K (.ref PC) n==some (some (.ref a))) && (isFn K (.ref a) && (keepIn K (.ref a) && (plainGet K PC n && !Bn attrs n)))
theorem bP{c:Cx}{n:Str}{k:Nat}{a:Addr}(hm:c.mth k=true)(hf:c.fad[k]? =some a)(h:hR c.K c.PC c.attrs n a=true):PP c n k:=by
 have h1:=Ac h
 have h2:=Ac h1.2
 have h3:=Ac h2.2
 have h4:=Ac h3.2
 exact⟨hm,⟨a,hf,eq_of_beq h1.1,h2.1,h3.1⟩,h4.1,fun hn=>by rw[EV hn]at h4;exact ft h4.2⟩
noncomputable def lP(K:Frag)(pm:Addr):Bool:=RR (K.lookup pm) fun C es=>(findIn K (.ref C) "__getitem__"==some (some (.builtin "dict.__getitem__"))) && (noSeq K C && ((subIn K (.ref C) (.type "dict")==some true) && (allB Uk es && allB (Z4 es) (upTo 0 128))))
theorem dX{K:Frag}{pm:Addr}(h:lP K pm=true):Mg K pm:=by
 obtain⟨C,d,es,n,sl,e,h⟩:=Pc h
 have h1:=Ac h
 have h2:=Ac h1.2
 have h3:=Ac h2.2
 have h4:=Ac h3.2
 exact⟨C,d,es,n,sl,e,eq_of_beq h1.1,h2.1,eq_of_beq h3.1,h4.1,h4.2⟩
noncomputable def Rf(v:Value)(n:Nat):Bool:=decide (v=rawInt n)
noncomputable def QA:List Value→List Nat→Bool
 |[],ns=>ns.isEmpty
 |v::r,ns=>(match ns with |n::ns=>Rf v n && QA r ns |[]=>false)
theorem QB{vs:List Value}:∀{ns:List Nat},QA vs ns=true→vs=ns.map fun w:Nat=>rawInt w:=by
 induction vs with
 |nil=>
  intro ns h
  induction ns using zo with
  |nil=>rfl
  |cons _ _=>exact ft h
 |cons v r ih=>
  intro ns h
  induction ns using zo with
  |nil=>exact ft h
  |cons n ns=>rw[zX (Ac h).1,ih (Ac h).2];rfl
noncomputable def Ti(l:List Value)(g:Value→List Value→Bool):Bool:=match l with
 |v::r=>g v r
 |[]=>false
theorem Dj{l:List Value}{g:Value→List Value→Bool}(h:Ti l g=true):∃v r,l=v::r∧g v r=true:=by
 induction l using zo with
 |nil=>exact ft h
 |cons v r=>exact⟨v,r,rfl,h⟩
noncomputable def Zc :Value→Option Addr
 | .ref a=>some a
 |_=>none
theorem Sh{v:Value}{a:Addr}(h:Zc v=some a):v=.ref a:=by
 cases v with
 |ref b=>rw[ze h]
 |_=>exact nz h
noncomputable def NP(v:Value):Bool:=decide (v=.none)
noncomputable def mv(K:Frag)(codes:List Nat)(v:Value):Bool:=gp (Zc v) fun ct=>onSeq (K.lookup ct) fun u ws=>u=="tuple" && QA ws codes
noncomputable def i7(K:Frag)(codes:List Nat)(l:List Value):Bool:=Ti l fun _ l=>Ti l fun _ l=>Ti l fun a l=>Ti l fun b l=>Ti l fun c l=>Ti l fun ct l=>Ti l fun k l=>
 l.isEmpty && (Rf a 0 && (NP b && (NP c && (Rf k 0 && mv K codes ct))))
noncomputable def dP(K:Frag)(pat:Addr)(codes:List Nat):Bool:=MJ (K.lookup pat) fun t vs _=>t=="re.Pattern" && i7 K codes vs
theorem YH{K:Frag}{pat:Addr}{codes:Array Nat}(h:dP K pat codes.toList=true):Rxm.PT K pat codes:=by
 refine DS (Ij h) fun t vs sl e h=>?_
 have h:=Ac h
 refine AH (Dj h.2) fun p _ e1 q=>?_
 refine AH (Dj q) fun fl _ e2 q=>?_
 refine AH (Dj q) fun a _ e3 q=>?_
 refine AH (Dj q) fun b _ e4 q=>?_
 refine AH (Dj q) fun c _ e5 q=>?_
 refine AH (Dj q) fun ct _ e6 q=>?_
 refine AH (Dj q) fun k r e7 q=>?_
 have q1:=Ac q
 have q2:=Ac q1.2
 have q3:=Ac q2.2
 have q4:=Ac q3.2
 have q5:=Ac q4.2
 refine Aa (MK q5.2) fun ad e8 q6=>?_
 refine Nf (LB q6) fun u ws n sl2 e9 q6=>?_
 have q6:=Ac q6
 refine⟨p,fl,ad,sl,sl2,n,?_,?_⟩
 ·rw[e,eq_of_beq h.1,e1,e2,e3,e4,e5,e6,e7,Jo.mp q1.1,zX q2.1,zX q3.1,zX q4.1,zX q5.1,Sh e8]
  rfl
 ·rw[e9,eq_of_beq q6.1,QB q6.2]
  exact zy (fun a=>some (⟨.type "tuple",none,.seq a n,sl2⟩:Obj)) (Array.toList_inj.mp Array.toList_map.symm)
noncomputable def mo(K:Frag)(id:String)(codes:List Nat)(l:List Value):Bool:=Ti l fun a l=>Ti l fun b l=>l.isEmpty && (decide (a=.builtin id) && gp (Zc b) fun pat=>dP K pat codes)
noncomputable def lU(K:Frag)(q:Addr):Bool:=MJ (K.lookup q) fun t vs sl=>t=="builtin_function_or_method" && (sl.toList.isEmpty && mo K "re.Pattern.search" Rxm.BD.toList vs)
theorem eV{K:Frag}{q:Addr}(h:lU K q=true):Rxm.Ox K q:=by
 refine DS (Ij h) fun t vs sl e h=>?_
 have h1:=Ac h
 have h2:=Ac h1.2
 refine AH (Dj h2.2) fun a _ e1 q=>?_
 refine AH (Dj q) fun b _ e2 q=>?_
 have q1:=Ac q
 have q2:=Ac q1.2
 refine Aa (MK q2.2) fun pat e3 q3=>?_
 refine⟨pat,?_,YH q3⟩
 obtain⟨sl⟩:=sl
 rw[e,eq_of_beq h1.1,e1,e2,Jo.mp q1.1,zX q2.1,Sh e3,show sl=[]from Jo.mp h2.1]
noncomputable def be(K:Frag)(n:Str)(a:Addr):Bool:=(nsIn K mainGlobals n==some (some (.ref a))) && keepIn K (.ref a)
noncomputable def kR(K:Frag)(PC fI:Addr)(cls:Str)(syn tr:Addr):Bool:=
 (["len","sum","range"]:List Str).all (fun n=>nsIn K mainGlobals n==some none) &&
 ((nsIn K mainGlobals "_synchre"==some (some (.ref syn))) && (lU K syn &&
 ((nsIn K mainGlobals "trans"==some (some (.ref tr))) && (lP K tr && ((nsIn K mainGlobals cls==some (some (.ref PC))) && (keepIn K (.ref PC) && (makesIn K PC &&
 ((findIn K (.ref PC) "__init__"==some (some (.ref fI))) && isFn K (.ref fI)))))))))
theorem bv{c:Cx}{C2:List Str}{mtn:Nat}{cls:Str}{fI syn tr:Addr}(h:kR c.K c.PC fI cls syn tr=true)
  (hf:∀k,mtn≤k→k < C2.length→c.mth k=false∧∃a,c.fad[k]? =some a∧be c.K (Aj C2 k) a=true) (hm:∀k,k < mtn→PP c (Aj C2 k) k):KF c C2 mtn cls fI:=by
 have q0:=Ac h
 have q3:=Ac q0.2
 have q4:=Ac q3.2
 have q13:=Ac q4.2
 have q14:=Ac q13.2
 have q15:=Ac q14.2
 have q16:=Ac q15.2
 have q17:=Ac q16.2
 have q18:=Ac q17.2
 refine{bi:=fun n hn=>eq_of_beq (zT.mp q0.1 n hn),syn:=⟨syn,eq_of_beq q3.1,eV q4.1⟩,tr:=⟨tr,eq_of_beq q13.1,dX q14.1⟩,fn:=fun k l1 l2=>?_,mt:=hm,cl:=⟨eq_of_beq q15.1,q16.1,q17.1,eq_of_beq q18.1,q18.2⟩}
 obtain⟨w1,a,w2,w3⟩:=hf k l1 l2
 have w3:=Ac w3
 exact⟨w1,a,w2,eq_of_beq w3.1,w3.2⟩
noncomputable def aL(K:Frag)(cs:Scope)(n:Str):Bool:=(nsIn K mainGlobals n==some none) && (Ui cs n .globalImplicit && (O9 n && !(n==("__name__":Str))))
theorem aM{c:Cx}{S:Sx}{n:Str}{v:Value}(h:aL c.K S.cs n=true)(hb:bootBuiltins n=some v):Ma c S n v:=by
 have h1:=Ac h
 have h2:=Ac h1.2
 have h3:=Ac h2.2
 exact⟨eq_of_beq h1.1,hb,fun e=>(by rw[e]at h3;exact ft h3.2),Dl h2.1,BN h3.1⟩
end
section
section
variable {fd:FuncData}{ns:List Str}
theorem GK{α:Type}{l:List α}{n:Nat}(h:l.length=n+1):∃x r,l=x::r∧r.length=n:=by
 induction l using zo with
 |nil=>cases h
 |cons x r=>exact⟨x,r,rfl,Nat.succ.inj h⟩
theorem gH(hl:ns.length=1)(h:∀a,bindArgs fd ⟨[a],[]⟩=pure (ns.zip [a]))(args:List Value)(e:args.length=ns.length):bindArgs fd ⟨args,[]⟩=pure (ns.zip args):=by
 refine AH (GK (e.trans hl)) fun a l e1 e=>?_
 rw[e1,jc e]
 exact h a
theorem kM(hl:ns.length=2)(h:∀a b,bindArgs fd ⟨[a,b],[]⟩=pure (ns.zip [a,b]))(args:List Value)(e:args.length=ns.length):bindArgs fd ⟨args,[]⟩=pure (ns.zip args):=by
 refine AH (GK (e.trans hl)) fun a l e1 e=>AH (GK e) fun b l e2 e=>?_
 rw[e1,e2,jc e]
 exact h a b
theorem kN(hl:ns.length=3)(h:∀a b c,bindArgs fd ⟨[a,b,c],[]⟩=pure (ns.zip [a,b,c]))(args:List Value)(e:args.length=ns.length):bindArgs fd ⟨args,[]⟩=pure (ns.zip args):=by
 refine AH (GK (e.trans hl)) fun a l e1 e=>AH (GK e) fun b l e2 e=>AH (GK e) fun c l e3 e=>?_
 rw[e1,e2,e3,jc e]
 exact h a b c
theorem mn(hl:ns.length=5)(h:∀a b c d e,bindArgs fd ⟨[a,b,c,d,e],[]⟩=pure (ns.zip [a,b,c,d,e]))(args:List Value)(e:args.length=ns.length):bindArgs fd ⟨args,[]⟩=pure (ns.zip args):=by
 refine AH (GK (e.trans hl)) fun a l e1 e=>AH (GK e) fun b l e2 e=>AH (GK e) fun c l e3 e=>AH (GK e) fun d l e4 e=>AH (GK e) fun f l e5 e=>?_
 rw[e1,e2,e3,e4,e5,jc e]
 exact h a b c d f
end
structure Ent where
 ad:Addr
 Af:Bool
 pargs:List Str
 locs:List Str
 cells:List Str
 gls:List Str
 ps:Nat
noncomputable def Ent.D(K:Frag)(e:Ent):Dd:=NE K e.ad e.Af e.pargs e.locs e.cells
noncomputable def KT(K:Frag)(Dx:List Ent):List (Dd×Addr×Value):=Dx.map fun e=>(e.D K,e.ad,(fdOf K e.ad).code)
structure Tx where
 attrs:List Str
 self:Str
 gl:List (Str×Val)
 C2:List Str
 mtn:Nat
 cls:Str
section
variable (t:Tx)
noncomputable def Ent.T(e:Ent):Tb:=⟨e.pargs++e.locs,t.attrs,t.self,e.Af,e.cells,e.gls,t.gl,t.C2,t.mtn,t.cls,"",⟨.function,[],false,false,[]⟩,e.ps⟩
variable (K:Frag)
noncomputable def aV(e:Ent)(fn:Fn):Bool:=
 kO K t.self e.ad e.Af e.pargs e.locs e.cells && (Nat.beq fn.ar e.pargs.length && (bR (fdOf K e.ad).scope t.self e.Af (e.pargs++e.locs) e.cells e.gls && (DN (e.T t) fn.body 0 && (!e.Af || e.cells.isEmpty))))
noncomputable def KV:List Ent→List Fn→Bool
 |[],l=>l.isEmpty
 |e::es,l=>(match l with |[]=>false |f::fs=>aV t K e f && KV es fs)
noncomputable def TG:List Ent→List Fn→List (List Stmt)
 |[],_=>[]
 |e::es,l=>(match l with |[]=>[] |f::fs=>BR (e.T t) f.body 0::TG es fs)
noncomputable def VV:List Ent→List (List Stmt)
 |[]=>[]
 |e::es=>E2 (fdOf K e.ad)::VV es
end
section
variable {K:Frag}{t:Tx}
theorem C0:∀{es:List Ent} {fs:List Fn} {k:Nat} {e:Ent},KV t K es fs=true→TG t es fs=VV K es→es[k]? =some e→∃f,fs[k]? =some f∧aV t K e f=true∧BR (e.T t) f.body 0=E2 (fdOf K e.ad)
 |[],_,_,_,_,_,h=>by rw[js]at h;exact nz h
 |_::_,[],_,_,h,_,_=>ft h
 |e::es,f::fs,0,_,h,g,h1=>by
  have h1:=ze h1
  subst h1
  exact⟨f,rfl,(Ac h).1,(jx g).1⟩
 |e::es,f::fs,k+1,_,h,g,h1=>C0 (k:=k) (Ac h).2 (jx g).2 h1
theorem KW:∀{es:List Ent} {fs:List Fn},KV t K es fs=true→fs.length=es.length
 |[],[],_=>rfl
 |[],_::_,h=>ft h
 |_::_,[],h=>ft h
 |_::_,_::_,h=>zy (· +1) (KW (Ac h).2)
end
section
variable {c:Cx}{P:Kx}{Dx:List Ent}{C2:List Str}{mtn:Nat}{cls:Str}{fI:Addr}
structure Gr(c:Cx)(P:Kx)(Dx:List Ent)(C2:List Str)(mtn:Nat)(cls:Str)(fI:Addr):Prop where
 ok:Dy c
 L:∀L∈c.lams,FF L
 A:∃D a cdv,Eh c D a cdv
 F:KF c C2 mtn cls fI
 mth:c.mth=Ii (KT c.K Dx)
 fad:c.fad=Dx.map (·.ad)
 few:Dx.length≤1000
 B:KV ⟨c.attrs,c.self,c.gl,C2,mtn,cls⟩ c.K Dx P.fns=true
 E:TG ⟨c.attrs,c.self,c.gl,C2,mtn,cls⟩ Dx P.fns=VV c.K Dx
 b:∀(k:Nat) (e:Ent),Dx[k]? =some e→∀args:List Value,args.length=((e.D c.K).AC c.self).length→bindArgs (fdOf c.K e.ad) ⟨args,[]⟩=pure (((e.D c.K).AC c.self).zip args)
 rx:P.rx=Rxm.Ei
 nf:P.nf=c.attrs.length
 I:c.fad[P.init]? =some fI
 Im:c.mth P.init=true
theorem I1{K:Frag}{k:Nat}{D:Dd}{a:Addr}{cdv:Value}(h:(KT K Dx)[k]? =some (D,a,cdv)):∃e,Dx[k]? =some e∧D=e.D K∧a=e.ad∧cdv=(fdOf K e.ad).code:=by
 unfold KT at h
 rw[Ju]at h
 induction q:Dx[k]? using zh with
 |none=>rw[q]at h;exact nz h
 |some e=>rw[q]at h;cases h;exact⟨e,rfl,rfl,rfl,rfl⟩
theorem Gr.are(O:Gr c P Dx C2 mtn cls fI):Dz c P (KT c.K Dx):=by
 have hl:(KT c.K Dx).length=Dx.length:=jb ..
 refine{hlen:=(KW O.B).trans hl.symm,hfad:=by rw[O.fad,jb,hl],hfn:=fun k D a cdv h=>?_,har:=fun k D a cdv fn h hf=>?_,cel:=fun k D a cdv h hm=>?_,few:=hl▸O.few}
 ·refine L7 (I1 h) fun e h1 hq2 hq3 hq4=>?_;subst hq2;subst hq3;subst hq4
  refine BZ (C0 O.B O.E h1) fun f h2 h3 _=>?_
  exact ND (Ac h3).1 (by rw[O.fad,Ju,h1];rfl) (O.b k e h1)
 ·refine L7 (I1 h) fun e h1 hq2 hq3 hq4=>?_;subst hq2;subst hq3;subst hq4
  refine BZ (C0 O.B O.E h1) fun f h2 h3 _=>?_
  rw[hf]at h2;rw[ze h2]
  exact zw (Ac (Ac h3).2).1
 ·refine L7 (I1 h) fun e h1 hq2 hq3 hq4=>?_;subst hq2;subst hq3;subst hq4
  refine BZ (C0 O.B O.E h1) fun f h2 h3 _=>?_
  have h4:=(Ac (Ac (Ac (Ac h3).2).2).2).2
  have hm:e.Af=true:=hm
  rw[hm]at h4
  exact Jo.mp h4
theorem Gr.Qo(O:Gr c P Dx C2 mtn cls fI){d:Nat}(HC:AM c (Bs P d) d c.mth){k:Nat}{D:Dd}{a:Addr}{cdv:Value}{fn:Fn}(h:(KT c.K Dx)[k]? =some (D,a,cdv))(hf:P.fns[k]? =some fn):IM c (Bs P d) d D.body D.qual D.scope a cdv D.names D.Af fn.body:=by
 refine L7 (I1 h) fun e h1 hq2 hq3 hq4=>?_;subst hq2;subst hq3;subst hq4
 refine BZ (C0 O.B O.E h1) fun f h2 h3 h4=>?_
 have e2:=ze (hf.symm.trans h2);subst e2
 have h5:=Ac (Ac (Ac h3).2).2
 obtain⟨DA,aA,cA,OA⟩:=O.A
 exact aJ O.ok HC (WR (S:=⟨(e.D c.K).names,(e.D c.K).scope,(e.D c.K).Af⟩) (cells:=e.cells) (gls:=e.gls) O.F O.rx O.nf O.I O.Im O.L OA HC h5.1) (Ac h5.2).1 h4
theorem Gr.calls(O:Gr c P Dx C2 mtn cls fI)(d:Nat):AM c (Bs P d) d c.mth:=
 OJ O.ok O.are O.mth (fun _ HC _ _ _ _ _ h hf=>O.Qo HC h hf) d
end
end
theorem NO{PC:Addr}{Z:Addr→Obj→Prop}{ρ:List Addr}:∀{vs:List Value} {ns:List Int},IntsAre vs ns→AU PC Z ρ (ns.map .int) vs
 |_,_,.nil=>.nil
 |_,_,.cons n t h=>.cons (.int n t) (NO h)
theorem O4{cl:List (Str×Addr)}{n:Str}(h:n∈cl.map (·.1)):∃a,cl.lookup n=some a:=by
 induction cl with
 |nil=>cases h
 |cons p r ih=>
  rw[zV]
  induction q:n==p.1 using za with
  |true=>exact⟨p.2,rfl⟩
  |false=>exact ih ((zI.mp h).resolve_left fun e=>(by rw[e,ju]at q;cases q))
theorem MD{cl:List (Str×Addr)}(hn:(cl.map (·.2)).Nodup){n n':Str}{a:Addr}(h:cl.lookup n=some a)(h':cl.lookup n'=some a):n=n':=by
 induction cl with
 |nil=>cases h
 |cons p r ih=>
  have hn:=jg.mp hn
  rw[zV]at h h'
  induction q:n==p.1 using za with
  |true=>
   rw[q]at h
   induction q':n'==p.1 using za with
   |true=>exact(eq_of_beq q).trans (eq_of_beq q').symm
   |false=>rw[q']at h';cases h;exact absurd (lookup_mem h') hn.1
  |false=>
   rw[q]at h
   induction q':n'==p.1 using za with
   |true=>rw[q']at h';cases h';exact absurd (lookup_mem h) hn.1
   |false=>rw[q']at h';exact ih hn.2 h h'
theorem UF{c:Cx}{f:Fx}{gls cells:List Str}(h:bR f.cs c.self false f.names cells gls=true)(hn:ag f.names=true)(hs:Bn f.names c.self=false)
  (hd:f.names.all (fun n=> !(n==("__debug__":Str)) && !(n==("__classdict__":Str)))=true) (hcl:f.cl.map (·.1)=cells) (hnd:(f.cl.map (·.2)).Nodup):E4 c f:=by
 have h1:=(Ac (Ac h).2).1
 refine{nd:=GR hn,self:=fun hm=>?_,kinds:=fun n hm=>?_,inj:=fun n n' a ha hb=>MD hnd hb ha,dbg:=fun n hm=>?_}
 ·rw[EV hm]at hs;exact ft hs.symm
 ·have h2:=Dl (zT.mp h1 n hm)
  induction q:Bn cells n using za with
  |true=>
   rw[q]at h2
   exact .inr (.inl ⟨h2,O4 (hcl▸Bc q)⟩)
  |false=>rw[q]at h2;exact .inl h2
 ·have:=Ac (zT.mp hd n hm)
  exact⟨BN this.1,BN this.2⟩
end Ag
end
namespace Ag.L04
noncomputable def bK:Fn:=⟨2,0,.cons (.sasg 0 (.loc 0)) (.cons (.sasg 1 (.loc 1)) .nil)⟩
noncomputable def MF:Fn:=⟨1,0,.cons (.asrt (.bl false (.cons (.p2 .eq (.p1 .len (.loc 0)) (.lit (.int (.ofNat 0)))) (.cons (.p2 .eq (.p2 .idx (.loc 0) (.p1 .neg (.lit (.int (.ofNat 1))))) (.lit (.str [10]))) .nil)))) (.cons (.sasg 2 (.loc 0)) (.cons (.sasg 3 (.lit (.int (.ofNat 0)))) .nil))⟩
noncomputable def F0:E:=.p2 .lt (.loc 6) (.loc 7)
noncomputable def FY:Ss:=.cons (.asg 8 (.p2 .idx (.loc 0) (.loc 6))) (.cons (.asg 6 (.p2 .add (.loc 6) (.lit (.int (.ofNat 1))))) (.cons (.if_ (.p2 .eq (.loc 8) (.lit (.str [120]))) (.cons (.cont) .nil) (.nil)) (.cons (.if_ (.p2 .eq (.p3 .slc (.loc 0) (.p2 .sub (.loc 6) (.lit (.int (.ofNat 1)))) (.p2 .add (.loc 6) (.loc 11))) (.loc 9)) (.cons (.asg 6 (.p2 .add (.loc 6) (.loc 11))) (.cons (.brk) .nil)) (.nil)) (.cons (.if_ (.p2 .eq (.loc 8) (.lit (.str [10]))) (.cons (.asg 3 (.p2 .add (.loc 3) (.lit (.int (.ofNat 1))))) (.cons (.if_ (.p2 .eq (.loc 11) (.lit (.int (.ofNat 0)))) (.cons (.if_ (.p2 .eq (.loc 2) (.lit (.int (.ofNat 0)))) (.cons (.ex (.push 5 (.loc 3))) .nil) (.nil)) (.cons (.brk) .nil)) (.nil)) (.cons (.cont) .nil))) (.nil)) (.cons (.if_ (.p2 .eq (.loc 8) (.lit (.str [92]))) (.cons (.asrt (.p2 .lt (.loc 6) (.loc 7))) (.cons (.if_ (.p2 .eq (.p2 .idx (.loc 0) (.loc 6)) (.lit (.str [10]))) (.cons (.asg 3 (.p2 .add (.loc 3) (.lit (.int (.ofNat 1))))) .nil) (.nil)) (.cons (.asg 6 (.p2 .add (.loc 6) (.lit (.int (.ofNat 1))))) (.cons (.cont) .nil)))) (.nil)) .nil)))))
noncomputable def FZ:Ss:=.cons (.if_ (.p2 .eq (.p2 .sub (.loc 3) (.lit (.int (.ofNat 1)))) (.loc 10)) (.cons (.asg 1 (.glob 2 (.int (.ofNat 2)))) .nil) (.cons (.asg 1 (.glob 3 (.int (.ofNat 3)))) .nil)) .nil
noncomputable def F4:E:=.p2 .lt (.loc 6) (.loc 7)
noncomputable def F2:Ss:=.cons (.asg 8 (.p2 .idx (.loc 0) (.loc 6))) (.cons (.asg 6 (.p2 .add (.loc 6) (.lit (.int (.ofNat 1))))) (.cons (.if_ (.p2 .eq (.loc 8) (.lit (.str [120]))) (.cons (.cont) .nil) (.nil)) (.cons (.if_ (.p2 .eq (.loc 8) (.lit (.str [10]))) (.cons (.asg 3 (.p2 .add (.loc 3) (.lit (.int (.ofNat 1))))) (.cons (.if_ (.p2 .eq (.loc 2) (.lit (.int (.ofNat 0)))) (.cons (.ex (.push 5 (.loc 3))) .nil) (.nil)) (.cons (.cont) .nil))) (.nil)) (.cons (.if_ (.p2 .eq (.loc 8) (.lit (.str [40]))) (.cons (.asg 2 (.p2 .add (.loc 2) (.lit (.int (.ofNat 1))))) (.cons (.cont) .nil)) (.nil)) (.cons (.if_ (.p2 .eq (.loc 8) (.lit (.str [41]))) (.cons (.if_ (.loc 2) (.cons (.asg 2 (.p2 .sub (.loc 2) (.lit (.int (.ofNat 1))))) .nil) (.nil)) (.cons (.cont) .nil)) (.nil)) (.cons (.if_ (.bl false (.cons (.p2 .eq (.loc 8) (.lit (.str [34]))) (.cons (.p2 .eq (.loc 8) (.lit (.str [39]))) .nil))) (.cons (.asg 9 (.loc 8)) (.cons (.if_ (.p2 .eq (.p3 .slc (.loc 0) (.p2 .sub (.loc 6) (.lit (.int (.ofNat 1)))) (.p2 .add (.loc 6) (.lit (.int (.ofNat 2))))) (.p2 .mul (.loc 9) (.lit (.int (.ofNat 3))))) (.cons (.asg 9 (.p2 .mul (.loc 9) (.lit (.int (.ofNat 3))))) .nil) (.nil)) (.cons (.asg 10 (.loc 3)) (.cons (.asg 11 (.p2 .sub (.p1 .len (.loc 9)) (.lit (.int (.ofNat 1))))) (.cons (.asg 6 (.p2 .add (.loc 6) (.loc 11))) (.cons (.while_ F0 FY FZ) (.cons (.cont) .nil))))))) (.nil)) (.cons (.if_ (.p2 .eq (.loc 8) (.lit (.str [35]))) (.cons (.asg 6 (.m3 .find (.loc 0) (.lit (.str [10])) (.loc 6))) (.cons (.asrt (.p2 .ge (.loc 6) (.lit (.int (.ofNat 0))))) (.cons (.cont) .nil))) (.nil)) (.cons (.asrt (.p2 .eq (.loc 8) (.lit (.str [92])))) (.cons (.asrt (.p2 .lt (.loc 6) (.loc 7))) (.cons (.if_ (.p2 .eq (.p2 .idx (.loc 0) (.loc 6)) (.lit (.str [10]))) (.cons (.asg 3 (.p2 .add (.loc 3) (.lit (.int (.ofNat 1))))) (.cons (.if_ (.p2 .eq (.p2 .add (.loc 6) (.lit (.int (.ofNat 1)))) (.loc 7)) (.cons (.asg 1 (.glob 1 (.int (.ofNat 1)))) .nil) (.nil)) .nil)) (.nil)) (.cons (.asg 6 (.p2 .add (.loc 6) (.lit (.int (.ofNat 1))))) .nil)))))))))))
noncomputable def F3:Ss:=.nil
noncomputable def Rt:Fn:=⟨0,12,.cons (.if_ (.p2 .ge (.sat 3) (.lit (.int (.ofNat 1)))) (.cons (.ret (.lit .none)) .nil) (.nil)) (.cons (.sasg 3 (.lit (.int (.ofNat 1)))) (.cons (.asg 0 (.sat 2)) (.cons (.asg 0 (.p1 .squeeze (.loc 0))) (.cons (.asg 0 (.m3 .replace (.loc 0) (.lit (.str [120,120,120,120,120,120,120,120])) (.lit (.str [120])))) (.cons (.asg 0 (.m3 .replace (.loc 0) (.lit (.str [120,120,120,120])) (.lit (.str [120])))) (.cons (.asg 0 (.m3 .replace (.loc 0) (.lit (.str [120,120])) (.lit (.str [120])))) (.cons (.asg 0 (.m3 .replace (.loc 0) (.lit (.str [120,120])) (.lit (.str [120])))) (.cons (.asg 0 (.m3 .replace (.loc 0) (.lit (.str [10,120])) (.lit (.str [10])))) (.cons (.asg 1 (.glob 0 (.int (.ofNat 0)))) (.cons (.asgs [.loc 2,.loc 3] (.lit (.int (.ofNat 0)))) (.cons (.asgs [.sat 4,.loc 4] (.nlst (.cons (.lit (.int (.ofNat 0))) .nil))) (.cons (.asg 5 (.app (.loc 4))) (.cons (.unr [.loc 6,.loc 7] (.seq true (.cons (.lit (.int (.ofNat 0))) (.cons (.p1 .len (.loc 0)) .nil)))) (.cons (.while_ F4 F2 F3) (.cons (.if_ (.bl true (.cons (.p2 .ne (.loc 1) (.glob 2 (.int (.ofNat 2)))) (.cons (.p2 .ne (.loc 1) (.glob 3 (.int (.ofNat 3)))) (.cons (.p2 .gt (.loc 2) (.lit (.int (.ofNat 0)))) .nil)))) (.cons (.asg 1 (.glob 4 (.int (.ofNat 4)))) .nil) (.nil)) (.cons (.sasg 5 (.loc 1)) (.cons (.asrt (.p2 .eq (.p2 .eq (.loc 1) (.glob 0 (.int (.ofNat 0)))) (.p2 .eq (.p2 .idx (.loc 4) (.p1 .neg (.lit (.int (.ofNat 1))))) (.loc 3)))) (.cons (.if_ (.p2 .ne (.p2 .idx (.loc 4) (.p1 .neg (.lit (.int (.ofNat 1))))) (.loc 3)) (.cons (.ex (.push 5 (.loc 3))) .nil) (.nil)) .nil))))))))))))))))))⟩
noncomputable def A3:E:=.wal 6 (.p2 .syn2 (.loc 4) (.loc 3))
noncomputable def A0:Ss:=.cons (.unp [.loc 7,.loc 3] (.p1 .mspan (.loc 6))) (.cons (.if_ (.not_ (.icall 0 (.loc 7))) (.cons (.asg 5 (.loc 7)) .nil) (.nil)) .nil)
noncomputable def A2:Ss:=.nil
noncomputable def AZ:Ss:=.cons (.asg 3 (.p4 .rfind (.loc 4) (.lit (.str [58,10])) (.lit (.int (.ofNat 0))) (.loc 1))) (.cons (.if_ (.p2 .lt (.loc 3) (.lit (.int (.ofNat 0)))) (.cons (.brk) .nil) (.nil)) (.cons (.asg 3 (.p2 .add (.p4 .rfind (.loc 4) (.lit (.str [10])) (.lit (.int (.ofNat 0))) (.loc 3)) (.lit (.int (.ofNat 1))))) (.cons (.asg 6 (.p3 .syn3 (.loc 4) (.loc 3) (.loc 1))) (.cons (.if_ (.bl true (.cons (.loc 6) (.cons (.not_ (.icall 0 (.p1 .mstart (.loc 6)))) .nil))) (.cons (.asg 5 (.p1 .mstart (.loc 6))) (.cons (.brk) .nil)) (.nil)) (.cons (.asg 1 (.loc 3)) .nil)))))
noncomputable def BM:Fn:=⟨1,7,.cons (.unr [.loc 4,.loc 5] (.seq true (.cons (.sat 2) (.cons (.lit .none) .nil)))) (.cons (.asg 1 (.p1 .len (.loc 4))) (.cons (.for_ [.loc 2] (.range1 (.lit (.int (.ofNat 5)))) AZ) (.cons (.if_ (.p1 .isnone (.loc 5)) (.cons (.asg 6 (.p1 .syn1 (.loc 4))) (.cons (.if_ (.bl true (.cons (.loc 6) (.cons (.not_ (.icall 0 (.p1 .mstart (.loc 6)))) .nil))) (.cons (.asg 5 (.p1 .mstart (.loc 6))) .nil) (.nil)) (.cons (.ret (.loc 5)) .nil))) (.nil)) (.cons (.asg 3 (.p2 .add (.loc 5) (.lit (.int (.ofNat 1))))) (.cons (.while_ A3 A0 A2) (.cons (.ret (.loc 5)) .nil))))))⟩
noncomputable def C6:Fn:=⟨0,0,.cons (.ex (.scall 2 (.nil))) (.cons (.ret (.sat 5)) .nil)⟩
noncomputable def K3:Fn:=⟨1,0,.cons (.if_ (.p2 .eq (.fld 0 3) (.lit (.int (.ofNat 0)))) (.cons (.ret (.seq false (.cons (.fld 0 2) .nil))) .nil) (.nil)) (.cons (.ret (.p2 .add (.seq false (.cons (.fld 0 2) (.cons (.fld 0 3) (.cons (.fld 0 5) .nil)))) (.fld 0 4))) .nil)⟩
noncomputable def EK:Fn:=⟨5,0,.cons (.ex (.tapp (.loc 0) (.loc 4))) (.cons (.if_ (.p2 .gt (.p1 .len (.loc 0)) (.loc 1)) (.cons (.rais 2) .nil) (.nil)) (.cons (.ret (.p2 .isin (.loc 4) (.loc 3))) .nil))⟩
noncomputable def K2:Fn:=⟨3,2,.cons (.asg 3 (.rvt (.comp 0 (.p3 .slc (.loc 1) (.p1 .neg (.lit (.int (.ofNat 5)))) (.lit .none)) 1))) (.cons (.asg 4 (.comp 1 (.loc 3) 2)) (.cons (.if_ (.p2 .eq (.loc 4) (.seq false (.nil))) (.cons (.ret (.p2 .add (.loc 3) (.p3 .slc (.loc 0) (.lit .none) (.lit (.int (.ofNat 1)))))) .nil) (.nil)) (.cons (.ret (.p2 .add (.p3 .slc (.loc 3) (.lit .none) (.p2 .add (.lidx (.loc 3) (.p2 .idx (.loc 4) (.lit (.int (.ofNat 0))))) (.lit (.int (.ofNat 1))))) (.comp 2 (.loc 0) 4))) .nil)))⟩
noncomputable def ER:Ss:=.cons (.unp [.loc 21,.loc 22,.loc 23] (.p2 .idx (.loc 2) (.p2 .mod (.loc 7) (.lit (.int (.ofNat 6)))))) (.cons (.if_ (.p2 .eq (.p2 .mod (.p2 .fdiv (.loc 7) (.lit (.int (.ofNat 6)))) (.lit (.int (.ofNat 2)))) (.lit (.int (.ofNat 1)))) (.cons (.ex (.apnd 4 (.p1 .len (.loc 3)))) .nil) (.nil)) (.cons (.if_ (.p2 .eq (.loc 23) (.lit (.int (.ofNat 1)))) (.cons (.ex (.apnd 6 (.ntp))) .nil) (.nil)) (.cons (.if_ (.p2 .eq (.loc 22) (.lit (.int (.ofNat 1)))) (.cons (.ex (.apnd 5 (.p1 .len (.loc 3)))) (.cons (.if_ (.p2 .ne (.loc 6) (.seq false (.nil))) (.cons (.ex (.tapp (.p2 .idx (.loc 6) (.p1 .neg (.lit (.int (.ofNat 1))))) (.p1 .len (.loc 3)))) .nil) (.nil)) .nil)) (.nil)) (.cons (.aug 3 .add (.p2 .add (.loc 21) (.lit (.str [10])))) .nil))))
noncomputable def Vi:Ss:=.cons (.asg 1 (.p1 .sum (.loc 0))) (.cons (.asg 2 (.nlst (.cons (.seq false (.cons (.lit (.str [116,114,121,58])) (.cons (.lit (.int (.ofNat 1))) (.cons (.lit (.int (.ofNat 1))) .nil)))) (.cons (.seq false (.cons (.lit (.str [120,32,61,32,49])) (.cons (.lit (.int (.ofNat 0))) (.cons (.lit (.int (.ofNat 0))) .nil)))) (.cons (.seq false (.cons (.lit (.str [9,100,101,102,32,103,40,97,41,58])) (.cons (.lit (.int (.ofNat 1))) (.cons (.lit (.int (.ofNat 1))) .nil)))) (.cons (.seq false (.cons (.lit (.str [105,102,32,121,58])) (.cons (.lit (.int (.ofNat 0))) (.cons (.lit (.int (.ofNat 1))) .nil)))) (.cons (.seq false (.cons (.lit (.str [32,32,114,101,116,117,114,110])) (.cons (.lit (.int (.ofNat 1))) (.cons (.lit (.int (.ofNat 0))) .nil)))) (.cons (.seq false (.cons (.lit (.str [39,39,39])) (.cons (.lit (.int (.ofNat 0))) (.cons (.lit (.int (.ofNat 0))) .nil)))) .nil)))))))) (.cons (.asg 3 (.lit (.str []))) (.cons (.asg 4 (.nlst (.nil))) (.cons (.asg 5 (.nlst (.nil))) (.cons (.asg 6 (.nlst (.nil))) (.cons (.for_ [.loc 7] (.of (.p2 .add (.p3 .slc (.loc 0) (.lit .none) (.lit (.int (.ofNat 12)))) (.seq false (.cons (.p2 .idx (.seq false (.cons (.lit (.int (.ofNat 0))) (.cons (.lit (.int (.ofNat 4))) (.cons (.lit (.int (.ofNat 2))) (.cons (.lit (.int (.ofNat 1))) .nil))))) (.p2 .mod (.p1 .len (.loc 0)) (.lit (.int (.ofNat 4))))) .nil)))) ER) .nil))))))
noncomputable def Zn:Ss:=.cons (.asg 8 (.fcall 7 (.cons (.loc 5) (.cons (.loc 6) (.cons (.loc 4) .nil))))) (.cons (.asg 9 (.p2 .add (.seq false (.cons (.lit .none) .nil)) (.comp 1 (.loc 8) 4))) (.cons (.asg 10 (.new (.cons (.lit (.int (.ofNat 4))) (.cons (.lit (.int (.ofNat 8))) .nil)))) (.cons (.ex (.mcall 1 10 (.cons (.loc 3) .nil))) (.cons (.if_ (.p2 .eq (.p2 .mod (.p1 .len (.loc 0)) (.lit (.int (.ofNat 3)))) (.lit (.int (.ofNat 1)))) (.cons (.ex (.mcall 4 10 (.nil))) .nil) (.nil)) (.cons (.asg 11 (.fcall 5 (.cons (.loc 10) .nil))) (.cons (.asg 12 (.p2 .mod (.loc 1) (.p2 .add (.p1 .len (.loc 8)) (.lit (.int (.ofNat 1)))))) .nil))))))
noncomputable def eL:Ss:=.cons (.asg 14 (.ntp)) .nil
noncomputable def eM:Ss:=.cons (.if_ (.bl false (.cons (.p2 .ne (.loc 14) (.loc 8)) (.cons (.p2 .ne (.loc 15) (.p2 .idx (.loc 9) (.p1 .neg (.lit (.int (.ofNat 1)))))) .nil))) (.cons (.ret (.lit (.bool false))) .nil) (.nil)) (.cons (.asg 16 (.ntp)) (.cons (.asg 17 (.lit .none)) (.cons (.asg 18 (.lit .none)) .nil)))
noncomputable def eO:Ss:=.cons (.if_ (.p2 .lt (.loc 12) (.p1 .len (.loc 8))) (.cons (.if_ (.bl false (.cons (.isnt 17 13) (.cons (.p2 .ne (.loc 16) (.p3 .slc (.loc 8) (.lit .none) (.p2 .add (.loc 12) (.lit (.int (.ofNat 1)))))) .nil))) (.cons (.ret (.lit (.bool false))) .nil) (.nil)) .nil) (.cons (.if_ (.bl false (.cons (.p1 .notnone (.loc 17)) (.cons (.p2 .ne (.loc 16) (.loc 8)) (.cons (.p2 .ne (.loc 18) (.loc 15)) .nil)))) (.cons (.ret (.lit (.bool false))) .nil) (.nil)) .nil)) (.cons (.if_ (.p2 .ne (.fcall 5 (.cons (.loc 10) .nil)) (.loc 11)) (.cons (.ret (.lit (.bool false))) .nil) (.nil)) (.cons (.asg 19 (.ntp)) .nil))
noncomputable def eP:Ss:=.cons (.ret (.bl true (.cons (.p2 .eq (.loc 19) (.loc 8)) (.cons (.p2 .eq (.loc 20) (.loc 15)) .nil)))) .nil
noncomputable def fR:E:=.p2 .mod (.p2 .fdiv (.loc 1) (.lit (.int (.ofNat 4)))) (.lit (.int (.ofNat 7)))
noncomputable def Us:Nat:=23
noncomputable def fns:List Fn:=[bK,MF,Rt,BM,C6,K3,EK,K2]
end Ag.L04
section
open PySem PySem.W PySem.Calls PyProof.Rows
namespace Ag.L04
section
set_option maxHeartbeats 4000000
noncomputable def Dx:List Ent:=[⟨137,true,["indentwidth","tabwidth"],[],[],[],
  21024000032021008000012021008000021021008000032020027000038020008000012020008000024020008000038⟩,
 ⟨144,true,["s"],[],[],["len"],
  26027000028026008000012026008000024026008000028025020000021025008000012025008000017025008000021024039000043024033000034000000000000000000000000024032000034024030000031000000000000024030000035000000000000024030000043024025000026024019000020000000000000024015000018024015000021000000000000024015000026024015000043024008000043⟩,
 ⟨165,true,[],["code","continuation","level","lno","goodlines","push_good","i","n","ch","quote","firstlno","w"],[],["C_NONE","trans","C_BRACKET","len","C_STRING_FIRST_LINE","C_STRING_NEXT_LINES","C_BACKSLASH"],
  139022000025139012000021139012000026139012000026138028000031138022000023000000000000000000000000138021000023138011000020000000000000138011000024000000000000138011000031138008001026137061000064137055000056000000000000000000000000137054000056137044000053000000000000137044000057000000000000137044000064137032000038137016000028000000000000137016000038000000000000137015000065137008000065136028000040136008000012136008000025136008000040135027000036135012000024135012000036134100000101134092000097000000000000134092000101134067000086134051000063000000000000134051000086134027000046134011000023000000000000134011000046134011000102134008001036133020000021133016000017000000000000133016000021133012000013133012000021132035000046132020000032132020000046131028000029131023000024131019000020000000000000131019000024000000000000131019000029131016001046130028000029130022000025000000000000130022000029130016000019130016000029129026000030129020000021129015000019000000000000129015000022000000000000129015000030129012003046128023000024128019000020000000000000128019000024128012000024127025000029127019000021000000000000127019000029127012000029126016000024125028000029125023000024000000000000125023000029125016000029124036000037124030000034124020000024124020000029124020000038124016000017124016000038123021000024123015000017000000000000123015000024123012003024122016000024121039000058121024000036121024000058119039000058119024000036119024000058118034000042118029000030118023000026000000000000118023000030000000000000118023000042118020003058116024000032115032000033115028000029000000000000115028000033115024000025115024000033114040000041114034000037000000000000114034000041114028000031114028000041113038000042113032000033113027000031000000000000113027000034000000000000113027000042113024001041112035000036112031000032000000000000112031000036112024000036111029000033111023000025000000000000111023000033111020005032110024000032109028000033108042000045108032000041108032000046108032000046107040000041107031000036000000000000107031000041107028001046106032000033106027000028000000000000106027000033106024003033105036000037105030000033000000000000105030000037105024000027105024000037104029000033104023000025000000000000104023000033104020006032103024000029102032000033102028000029000000000000102028000033102024000025102024000033101044000049101038000039101034000035000000000000101034000039101032000033101028000029000000000000101028000033101023000027101028000039101023000040000000000000101023000049101020002029100024000032099029000032099023000025000000000000099023000032099020001032098028000029098024000025000000000000098024000029098020000021098020000029097030000031097025000029000000000000097025000032097020000022097020000032096026000027096022000023000000000000096022000027096016025058095024000025095020000021000000000000095020000025095016000017095016000025094033000034094024000029000000000000094020000023094020000030000000000000094020000034094016000017094016000034093027000030093016000024093016000030092036000037092028000033000000000000092028000037092020000025092020000037091048000049091040000045000000000000091040000049091034000035091030000031000000000000091030000035091028000029091024000025000000000000091024000029091019000023091024000035091019000036000000000000091019000049091016001037090024000026090016000021090016000026089034000037089028000030000000000000089028000037089021000024089015000017000000000000089015000024089015000037089012033024088016000024087036000037087028000033000000000000087028000037087020000025087020000037086019000024086016001037085021000024085015000017000000000000085015000024085012003024084016000024083032000033083024000029000000000000083024000033083016000021083016000033082021000024082015000017000000000000082015000024082012002024081016000024080030000033080020000029080020000034080020000034079028000029079019000024000000000000079019000029079016001034078028000029078022000025000000000000078022000029078016000019078016000029077021000025077015000017000000000000077015000025077012004024076016000024075021000024075015000017000000000000075015000024075012001024074020000021074016000017000000000000074016000021074012000013074012000021073022000023073017000021000000000000073017000024073012000014073012000024072018000019072014000015000000000000072014000019072008061021071023000027000000000000071019000022071019000028071016000017071015000029000000000000071011000012000000000000071008000009071008000012071008000029070020000029070020000036070008000017070008000036069038000039069037000040000000000000069025000034069008000012069008000022069008000040068022000023000000000000068016000019000000000000068008000013068008000023067023000029067008000020067008000029066035000039066028000033066015000019066015000027066015000040066008000012066008000040065034000037065028000032065015000019065015000027065015000038065008000012065008000038064034000037064028000032064015000019064015000027064015000038064008000012064008000038063036000039063028000034063015000019063015000027063015000040063008000012063008000040062040000043062028000038062015000019062015000027062015000044062008000012062008000044061015000019061030000035061015000029061015000036061008000012061008000036060015000019060015000024060008000012060008000024059027000028059008000012059008000024059008000028000000000000058012000018057031000032057011000015057011000027000000000000057011000032057008001018⟩,
 ⟨151,true,["is_char_in_string"],["limit","tries","i","code","pos","m","s"],[],["len","range","_synchre"],
  51015000018051008000018050022000023050016000019050016000023049037000038049019000036049019000039049015000039049012001023048019000020000000000000048019000025048019000027000000000000048015000016000000000000048012000013048012000016048012000027047035000036047029000033047020000028047020000037047015000016047015000037047008003023046018000019046012000015000000000000046012000019046008000009046008000019045019000022045012000022044022000023000000000000044022000029044022000031044016000019044016000031043044000045000000000000043044000051043044000053043026000043043026000054043022000054043015000016043015000055043012001031042025000029000000000000042016000024042016000030042012000013042012000030041011000014000000000000041018000022041011000022041008004022040020000021040012000017040012000021039016000021038022000023000000000000038022000029038022000031038016000019038016000031037044000045000000000000037044000051037044000053037026000043037026000054037022000054037015000016037015000055037012002021036034000039036031000032036025000029036016000024036016000040036012000013036012000040035041000042035036000037035033000034035027000031035016000020035016000026035016000038000000000000035016000042035012000013035012000042034016000021033019000020033015000016000000000000033015000020033012001021032037000042032034000035032027000032032016000020032016000026032016000043032012000013032012000043031027000028031021000026031021000029000000000000000000000000031012000017031008009021030020000024000000000000030016000019030016000025030008000013030008000025029032000036029021000025029021000030029020000037000000000000029014000017000000000000029008000012029008000017029008000037⟩,
 ⟨172,true,[],[],[],[],
  143015000019143015000032143008000032142008000012142008000020142008000022142008000022⟩,
 ⟨242,false,["parser"],[],[],[],
  172068000074172068000084172045000051172045000064172025000031172025000043172012000018172012000023172011000065000000000000172011000084172004000084171016000022171016000027171015000028171008000028170029000030170007000013170007000025000000000000170007000030170004001028⟩,
 ⟨249,false,["asked","stop","error","barred","place"],[],[],["len"],
  177020000026177011000016000000000000177011000026177004000026176014000019176008000019175020000024175011000016000000000000175007000010175007000017000000000000175007000024175004001019174017000022174004000009174004000016174004000023174004000023⟩,
 ⟨254,false,["every","groups","barred"],["firsts","free"],["free","barred"],[],
  183068000073183090000091183085000089183085000092183077000082183077000092183059000064183049000054183048000093183043000044183037000038183032000036000000000000183032000039183019000025183019000031183019000040000000000000183019000044000000000000183011000017183018000044183011000045000000000000183011000093183004000093182031000032000000000000182024000029182030000032182024000033182015000021000000000000182015000033182008000033181015000017181007000011000000000000181007000017181004001033180031000037000000000000000000000000180054000060180041000046180041000060180022000027180012000017180011000061180004000008180004000061000000000000179044000045000000000000000000000000179043000045179036000042179043000046179036000047179020000021179014000019179060000062179051000056179051000062179027000032179014000022179013000063179066000068179064000068179013000069179004000010179004000069⟩]
noncomputable def C5:Ent:=⟨259,false,["script"],["total","table","text","barred","every","groups","x","order","due","parser","state","stop","error","asked","told","heard","caught","again","last","third","row","word","colon"],["stop","last","heard","error","barred","asked"],["sum","_law_order","Parser","_law_state","len"],
  231038000042231029000034000000000000231029000042231019000024231011000015000000000000231011000024231011000042231004000042230048000053230092000097230084000090230077000082230073000075230067000071230055000066230055000098230041000098230012000018230012000040230012000099230004000009230004000099229011000013229004000008229004000013228015000020228008000020227029000034227018000024227007000017227007000025000000000000227007000034227004001020226015000020226008000020225058000062225049000054000000000000225049000062225040000045225031000036000000000000225031000045225009000015000000000000225023000027225009000027225009000062225004001020224019000024224012000024223057000058223050000054000000000000223050000058000000000000223043000048223049000058223043000059223034000039000000000000223034000059223025000030223011000017223011000030223011000059223008001024222018000023000000000000222014000017222014000024222007000011000000000000222007000024222004004020219052000057219099000104219091000097219084000089219078000082219071000076219059000070219059000105219045000105219016000022219016000044219016000106219008000013219008000106221017000020221008000014221008000020220011000020220004001020218004003020217012000016217004000009217004000016216013000017216004000010216004000017215012000014215004000009215004000014214015000020214008000020213038000039000000000000000000000000213037000039213033000036000000000000213033000040213025000029000000000000213025000040213016000021213007000012000000000000213007000021213007000040213004001020212047000052212092000097212084000090212077000082212073000075212066000071212054000065212054000098212040000098212011000017212011000039212011000099212004000008212004000099211012000014211004000009211004000014210147000148210143000144210134000139000000000000210134000144000000000000210134000148210128000131210118000127210118000132210112000115210097000111210097000116000000000000210079000093210079000095210075000076210061000074210061000077210057000058210046000056210046000059210040000043210031000039210031000044210024000028210013000023210013000029210012000133210012000149210004000009210004000149209033000034209024000029000000000000209020000023209020000030000000000000209020000034209011000016000000000000209011000035209004000008209004000035208023000029208012000022208012000030208004000009208004000030207008000014207008000036207008000038207008000038206026000027206021000022206011000017000000000000206007000010206007000018000000000000206007000022000000000000206007000027206004001038205020000024205004000010205004000019205004000025205004000025204023000024204020000021204013000019204013000025204004000010204004000025203039000044000000000000000000000000203061000067203048000053203048000067203030000035203020000025203019000068203011000015203010000016000000000000203010000068203004000007203004000068202038000044202030000036202023000028202012000022202012000045202004000009202004000045201022000026201016000019000000000000201016000026201008000012201008000026200038000042000000000000200034000037200034000043200024000025000000000000000000000000200023000025200016000022000000000000200016000026200016000033200016000044200016000044199025000027199015000021000000000000199015000027199012001044198029000033000000000000198025000028198025000034198012000017198012000024198012000035198012000035197019000020197011000015000000000000197011000020197008003044196026000028196012000018196012000025196012000029196012000029195020000021195011000016000000000000195011000021195008001029194030000034000000000000194026000029194026000035194012000018194012000025194012000036194012000036193025000026193020000021193016000017193011000012000000000000193011000017000000000000193011000021000000000000193011000026193008001036192037000038192033000034000000000000192033000038192027000032000000000000192027000039000000000000192019000024000000000000192013000017000000000000192008000011192008000024192008000039191055000056191045000051000000000000191041000044191041000052000000000000191041000056191038000039191035000036191032000033191029000030191028000040000000000000191028000057191027000058191021000023000000000000191013000019191020000023191013000024000000000000191013000058000000000000000000000000191008000009191004010026190013000015190004000010190004000015189012000014189004000009189004000014188013000015188004000010188004000015187011000013187004000008187004000013186117000118186114000115186107000112186106000119186102000103186099000100186087000097186086000104186082000083186079000080186070000077186069000084186065000066186062000063186047000060186046000067186042000043186039000040186030000037186029000044186025000026186022000023186014000020186013000027186012000120186004000009186004000120185016000022000000000000185012000015185012000023185004000009185004000023⟩
noncomputable def attrs:List Str:=["indentwidth","tabwidth","code","study_level","goodlines","continuation","stmt_start","stmt_end","lastch","lastopenbracketpos","stmt_bracketing"]
noncomputable def C2:List Str:=["__init__","set_code","_study1","find_good_parse_start","get_continuation_type","_law_state","_law_answer","_law_order"]
noncomputable def gl:List (Str×Val):=[("C_NONE",.int 0),("C_BACKSLASH",.int 1),("C_STRING_FIRST_LINE",.int 2),("C_STRING_NEXT_LINES",.int 3),("C_BRACKET",.int 4)]
noncomputable def tx:Tx:=⟨attrs,"self",gl,C2,5,"Parser"⟩
noncomputable abbrev kf:=Hd.kf
noncomputable def MA:Tb:=⟨C5.pargs++C5.locs,attrs,"self",false,C5.cells,C5.gls,gl,C2,5,"Parser","",⟨.function,[],false,false,[]⟩,C5.ps⟩
theorem ents(P:Params):KV tx (kf P) Dx L04.fns=true:=by kernel_rfl
theorem texts(P:Params):TG tx Dx L04.fns=VV (kf P) Dx:=by kernel_rfl
theorem glob(P:Params):kP (kf P) gl=true:=by kernel_rfl
theorem attr(P:Params):attrs.all (kL (kf P) 231)=true:=by kernel_rfl
noncomputable def Ry(K:Frag):List Str→List Ent→Bool
 |[],_=>true
 |n::r,l=>(match l with |[]=>false |e::es=>hR K 231 attrs n e.ad && Ry K r es)
theorem Af(P:Params):Ry (kf P) (C2.take 5) Dx=true:=by kernel_rfl
theorem bf(P:Params):(be (kf P) "_law_state" 242 && (be (kf P) "_law_answer" 249 && be (kf P) "_law_order" 254))=true:=by kernel_rfl
theorem kS(P:Params):kR (kf P) 231 137 "Parser" 48 73=true:=by kernel_rfl
noncomputable def Um:Cv where
 nm:="_law_answer"
 nk:="place"
 qual:="law.<locals>.<lambda>"
 params:=⟨[],[⟨"place",none,Gb 212047000052⟩],none,[],[],none,[]⟩
 scope:=⟨.function,[("place",.local),("asked",.free),("barred",.free),("error",.free),("_law_answer",.globalImplicit)],false,false,[]⟩
 args:=[(.free "asked",Gb 212066000071),(.num 99,Gb 212073000075),(.free "error",Gb 212077000082),(.free "barred",Gb 212084000090)]
 p0:=Gb 212054000098
 p1:=Gb 212054000065
 p2:=Gb 212092000097
noncomputable def Un:Cv where
 nm:="_law_answer"
 nk:="place"
 qual:="law.<locals>.<lambda>"
 params:=⟨[],[⟨"place",none,Gb 219052000057⟩],none,[],[],none,[]⟩
 scope:=⟨.function,[("place",.local),("barred",.free),("error",.free),("heard",.free),("stop",.free),("_law_answer",.globalImplicit)],false,false,[]⟩
 args:=[(.free "heard",Gb 219071000076),(.free "stop",Gb 219078000082),(.free "error",Gb 219084000089),(.free "barred",Gb 219091000097)]
 p0:=Gb 219059000105
 p1:=Gb 219059000070
 p2:=Gb 219099000104
noncomputable def Uo:Cv where
 nm:="_law_answer"
 nk:="place"
 qual:="law.<locals>.<lambda>"
 params:=⟨[],[⟨"place",none,Gb 230048000053⟩],none,[],[],none,[]⟩
 scope:=⟨.function,[("place",.local),("barred",.free),("error",.free),("last",.free),("_law_answer",.globalImplicit)],false,false,[]⟩
 args:=[(.free "last",Gb 230067000071),(.num 99,Gb 230073000075),(.free "error",Gb 230077000082),(.free "barred",Gb 230084000090)]
 p0:=Gb 230055000098
 p1:=Gb 230055000066
 p2:=Gb 230092000097
noncomputable def J0:Du where
 s1:=Vi
 s2:=Zn
 s3:=eL
 s4:=eM
 s5:=eO
 s6:=eP
 ix:=fR
 el:=[("ValueError",some (.str [110,111])),("KeyError",some (.str [107])),("IndexError",some (.int (.ofNat 3))),("StopIteration",some (.int (.ofNat 4))),("AssertionError",none),("AttributeError",some (.str [97])),("TypeError",some (.str [116]))]
 k2:=Hf Vi
 ke:=218
 ki:=243
 k3:=243+sz fR
 kl:=253
 k4:=267
 kt:=294
 k5:=314
 kn:=368
 k6:=382
 L1:=Um
 L2:=Un
 L3:=Uo
 a1:=[(some 14,0),(none,99),(some 13,0),(some 4,0)]
 a2:=[(some 16,0),(some 12,0),(some 13,0),(some 4,0)]
 a3:=[(some 19,0),(none,99),(some 13,0),(some 4,0)]
 met:="met"
theorem g7:J0.lL MA=true:=by kernel_rfl
theorem g8(P:Params):J0.text MA=E2 (fdOf (kf P) 259):=by kernel_rfl
theorem bz(P:Params):bR (fdOf (kf P) 259).scope "self" false (C5.pargs++C5.locs) C5.cells C5.gls=true:=by kernel_rfl
theorem g0(P:Params):(aL (kf P) (fdOf (kf P) 259).scope "Exception" && (J0.el.all fun p=>aL (kf P) (fdOf (kf P) 259).scope p.1))=true:=by kernel_rfl
end
end Ag.L04
end
namespace Ag.Pq
section
open Rxm
noncomputable def Ae:Nat→Txt
 |0=>[116,114,121,58,10]
 |1=>[120,32,61,32,49,10]
 |2=>[9,100,101,102,32,103,40,97,41,58,10]
 |3=>[105,102,32,121,58,10]
 |4=>[32,32,114,101,116,117,114,110,10]
 |_=>[39,39,39,10]
noncomputable def Ay:Nat→Option Nat
 |0=>some 3
 |1=>none
 |2=>some 4
 |3=>none
 |4=>some 8
 |_=>none
noncomputable def flat:List Nat→Txt
 |[]=>[]
 |r::rs=>Ae r++flat rs
noncomputable def first:List Nat→Nat→Option (Nat×Nat)
 |[],_=>none
 |r::rs,p=>match Ay r with |some e=>some (p,p+e) |none=>first rs (p+(Ae r).length)
noncomputable def Nl(A:Txt):Prop:=A=[]∨∃u,A=u++[10]
theorem LJ(P:Nat→Prop)(h0:P 0)(h1:P 1)(h2:P 2)(h3:P 3)(h4:P 4)(h5:∀n,P (n+5)):∀r,P r
 |0=>h0 |1=>h1 |2=>h2 |3=>h3 |4=>h4 |n+5=>h5 n
theorem Bt(r:Nat):4≤(Ae r).length:=LJ (fun r=>4≤(Ae r).length) (by decide) (by decide) (by decide) (by decide) (by decide) (fun _=>(by decide:4≤4)) r
theorem MV(r:Nat):∃u,Ae r=u++[10]∧(u.all fun c=> !Nat.beq c 10)=true:=LJ (fun r=>∃u,Ae r=u++[10]∧(u.all fun c=> !Nat.beq c 10)=true) ⟨[116,114,121,58],rfl,rfl⟩ ⟨[120,32,61,32,49],rfl,rfl⟩ ⟨[9,100,101,102,32,103,40,97,41,58],rfl,rfl⟩ ⟨[105,102,32,121,58],rfl,rfl⟩ ⟨[32,32,114,101,116,117,114,110],rfl,rfl⟩ (fun _=>⟨[39,39,39],rfl,rfl⟩) r
theorem Nl.row{A:Txt}(r:Nat):Nl (A++Ae r):=.inr (by obtain⟨u,e,_⟩:=MV r;exact⟨A++u,by rw[e,zl]⟩)
theorem Ze(r:Nat)(j:Nat)(hj:j+1 < (Ae r).length):(Ae r)[j]? ≠some 10:=fun h=>by
 obtain⟨u,e,hu⟩:=MV r
 rw[e,zd]at hj
 have hj':j < u.length:=jG hj
 rw[e,zJ hj']at h
 have:=zT.mp hu 10 (zQ h)
 exact Bool.noConfusion this
theorem Ge{t:Txt}{i c:Nat}(h:t[i]? =some c):t.toArray.getD i 0=c:=by
 rw[Jf,z8,h];rfl
theorem Tw{A y:Txt}(h:Nl A):bol (A++y) A.length=true:=by
 show(A.length==0 || (A++y).toArray.getD (A.length - 1) 0==10)=true
 obtain rfl |⟨u,rfl⟩:=h
 ·rfl
 ·rw[JM]
  refine .inr (beq_iff_eq.mpr (Ge ?_))
  rw[zd,zl]
  show(u++([10]++y))[u.length]? =some 10
  rw[zM (zu _),jl];rfl
theorem Xg{t:Txt}{p c:Nat}(h:t[p]? =some c)(hc:c≠10):bol t (p+1)=false:=by
 show((p+1==0) || t.toArray.getD (p+1 - 1) 0==10)=false
 rw[Nat.add_sub_cancel,Ge h]
 exact JC.mpr ⟨rfl,jd.mpr hc⟩
theorem Q8{A y:Txt}{r j:Nat}(hj:j < (Ae r).length):(A++(Ae r++y))[A.length+j]? =(Ae r)[j]? :=by
 rw[zM (zB _ _),jS,zJ hj]
theorem Ol{A y:Txt}{r j q:Nat}(h0:0 < j)(hj:j < (Ae r).length):Fy (A++(Ae r++y)) q (A.length+j)=none:=by
 cases j with
 |zero=>exact absurd h0 (j6 _)
 |succ j=>
  have hj':j < (Ae r).length:=Nat.lt_of_succ_lt hj
  have e:(A++(Ae r++y))[A.length+j]? =some (Ae r)[j]:=(Q8 hj').trans (jq hj')
  have hb:=Xg e fun h=>Ze r j hj ((jq hj').trans (zy some h))
  unfold Fy
  rw[show A.length+(j+1)=A.length+j+1 from rfl,hb];rfl
theorem GA{t:Txt}{q p a b:Nat}(hq:p+1 < q)(h1:t[p]? =some a)(h2:t[p+1]? =some b)(ha:PySem.Sre.isWordUni a=true)(hb:PySem.Sre.isWordUni b=false):Eb t.toArray q (p+1)=true:=by
 unfold Eb
 rw[Nat.add_sub_cancel,Ge h1,Ge h2,ha,hb,ja (jO p),Bool.and_false,Bool.true_and,JR.mpr (show q≠0 by lia)];rfl
theorem SX{A y:Txt}{r q:Nat}(hq:A.length+(Ae r).length≤q):∃y',((A++(Ae r++y)).take q).drop A.length=Ae r++y':=by
 obtain⟨k,rfl⟩:=Nat.exists_eq_add_of_le hq
 refine⟨y.take k,?_⟩
 rw[JO,Jh,zO,jS,List.take_length_add_append]
theorem VM{A y:Txt}{r q:Nat}(hA:Nl A)(hq:A.length+(Ae r).length≤q):Fy (A++(Ae r++y)) q A.length=(Ay r).map (A.length+·):=by
 have hb:bol (A++(Ae r++y)) A.length=true:=Tw hA
 have hl:=Bt r
 have ch:∀j,j < (Ae r).length→(A++(Ae r++y))[A.length+j]? =(Ae r)[j]? :=fun j hj=>Q8 hj
 unfold Fy
 rw[hb,j4]
 obtain⟨y',e⟩:=SX (y:=y) hq
 rw[e]
 generalize A++(Ae r++y)=t at ch
 revert hq ch
 refine LJ (fun r=>A.length+(Ae r).length≤q→(∀j,j < (Ae r).length→t[A.length+j]? =(Ae r)[j]?)→Kt t q ((Ae r++y').drop (BC Qm (Ae r++y'))) (A.length+BC Qm (Ae r++y')) IE=(Ay r).map (A.length+·)) ?_ ?_ ?_ ?_ ?_ ?_ r
 ·intro hq ch
  have he:Eb t.toArray q (A.length+2+1)=true:=GA (a:=121) (b:=58) (z4 (Nat.add_lt_add_left (by decide:3 < 5) _) hq) (ch 2 (by decide)) (ch 3 (by decide)) (by decide+kernel) (by decide+kernel)
  show cond (true && Eb t.toArray q (A.length+2+1)) (some (A.length+3)) _=some (A.length+3)
  rw[he];rfl
 ·exact fun _ _=>rfl
 ·intro hq ch
  have he:Eb t.toArray q (A.length+3+1)=true:=GA (a:=102) (b:=32) (z4 (Nat.add_lt_add_left (by decide:4 < 11) _) hq) (ch 3 (by decide)) (ch 4 (by decide)) (by decide+kernel) (by decide+kernel)
  show cond (true && Eb t.toArray q (A.length+3+1)) (some (A.length+4)) _=some (A.length+4)
  rw[he];rfl
 ·exact fun _ _=>rfl
 ·intro hq ch
  have he:Eb t.toArray q (A.length+7+1)=true:=GA (a:=110) (b:=10) (z4 (Nat.add_lt_add_left (by decide:8 < 9) _) hq) (ch 7 (by decide)) (ch 8 (by decide)) (by decide+kernel) (by decide+kernel)
  show cond (true && Eb t.toArray q (A.length+7+1)) (some (A.length+8)) _=some (A.length+8)
  rw[he];rfl
 ·exact fun _ _ _=>rfl
theorem Ft{F:Nat→Option Nat}:∀{n p:Nat},(∀i,i≤n→F (p+i)=none)→E1 F n p=none
 |0,p,h=>by
  have h0:F p=none:=h 0 (zu _)
  show(match F p with |some e=>some (p,e) |none=>none)=none
  rw[h0]
 |n+1,p,h=>by
  have h0:F p=none:=h 0 (zY _)
  show(match F p with |some e=>some (p,e) |none=>E1 F n (p+1))=none
  rw[h0]
  exact Ft fun i hi=>by rw[zO,jH 1];exact h (i+1) (z3 hi)
theorem Fv{F:Nat→Option Nat}:∀{m n p:Nat},(∀i,i < m→F (p+i)=none)→E1 F (n+m) p=E1 F n (p+m)
 |0,n,p,_=>rfl
 |m+1,n,p,h=>by
  have h0:F p=none:=h 0 (jO _)
  show(match F p with |some e=>some (p,e) |none=>E1 F (n+m) (p+1))=_
  rw[h0]
  show E1 F (n+m) (p+1)=_
  rw[Fv (m:=m) fun i hi=>by rw[zO,jH 1];exact h (i+1) (Nat.succ_lt_succ hi),zO,jH 1]
theorem SL{F:Nat→Option Nat}{n p e:Nat}(h:F p=some e):E1 F n p=some (p,e):=by
 cases n with
 |zero=>show(match F p with |some e=>some (p,e) |none=>none)=_;rw[h]
 |succ n=>show(match F p with |some e=>some (p,e) |none=>E1 F n (p+1))=_;rw[h]
theorem XU{a n l g:Nat}(hr:4≤g)(h1:a+n < a+(l+g))(h2:a+(l+g)≤a+n+3):∃k,n=k+l∧a+l+k < a+(l+g)∧a+(l+g)≤a+l+k+3:=by
 rw[zO]at h2
 have h2:=Nat.le_of_add_le_add_left h2
 refine zg (Nat.exists_eq_add_of_le (Nat.le_of_add_le_add_right (zp (je (Nat.le_of_succ_le hr) l) h2))) fun k e=>⟨k,e.trans (jH ..),?_,?_⟩
 ·rw[zO,←e];exact h1
 ·rw[zO a,←e,zO];exact je h2 _
theorem Yx{a n l i:Nat}(h1:a+n < a+(l+0))(hi:i≤n):i < l:=jm hi (Nat.lt_of_add_lt_add_left h1)
theorem Fu{t B:Txt}{q:Nat}:∀(rs:List Nat) (A:Txt) (n:Nat),Nl A→t=A++(flat rs++B)→q=(A++flat rs).length→A.length+n < q→q≤A.length+n+3→E1 (Fy t q) n A.length=first rs A.length
 |[],A,n,_,_,hq,h1,_=>by
  rw[hq,show A++flat []=A from zE _]at h1
  exact absurd h1 (Nat.not_lt.mpr (zB _ _))
 |r::rs,A,n,hA,ht,hq,h1,h2=>by
  have hlen:(A++flat (r::rs)).length=A.length+((Ae r).length+(flat rs).length):=by
   show(A++(Ae r++flat rs)).length=_
   rw[zd,zd]
  have ht':t=A++(Ae r++(flat rs++B)):=by rw[ht];show A++((Ae r++flat rs)++B)=_;rw[zl]
  have hr:=Bt r
  have hat:=VM (y:=flat rs++B) (r:=r) (q:=q) hA (by rw[hq,hlen,←zO];exact zB _ _)
  rw[←ht']at hat
  have hin:∀j,0 < j→j < (Ae r).length→Fy t q (A.length+j)=none:=fun j h0 hj=>by rw[ht'];exact Ol h0 hj
  show _=(match Ay r with |some e=>some (A.length,A.length+e) |none=>first rs (A.length+(Ae r).length))
  cases hw:Ay r with
  |some e=>
   rw[hw]at hat
   exact SL hat
  |none=>
   rw[hw]at hat
   have hno:∀i,i < (Ae r).length→Fy t q (A.length+i)=none:=fun i hi=>by
    cases i with
    |zero=>exact hat
    |succ i=>exact hin _ (jO _) hi
   cases rs with
   |nil=>
    refine Ft fun i hi=>hno i ?_
    rw[hq,hlen]at h1
    exact Yx h1 hi
   |cons r2 rs=>
    have hr2:=Bt r2
    have hfl:(flat (r2::rs)).length=(Ae r2).length+(flat rs).length:=zd
    rw[hq,hlen,hfl]at h1 h2
    refine BZ (XU (zp hr2 (zB _ _)) h1 h2) fun k hk k1 k2=>?_
    subst hk
    have hA':(A++Ae r).length=A.length+(Ae r).length:=zd
    rw[Fv hno,←hA']
    refine Fu (r2::rs) (A++Ae r) k (.row r) (by rw[ht',zl]) ?_ ?_ ?_
    ·rw[hq];show(A++(Ae r++flat (r2::rs))).length=_;rw[zl]
    ·rw[hA',hq,hlen,hfl];exact k1
    ·rw[hA',hq,hlen,hfl];exact k2
theorem HX{a b:Nat}(h:b≤a):Nat.blt a b=false:=Bool.eq_false_iff.mpr fun e=>Nat.not_lt.mpr h (zC e)
theorem Ks{t:Txt}{p q n:Nat}(h:q=p+(n+3)):Ck t p q=E1 (Fy t q) (n+1) p:=by
 unfold Ck
 rw[h,jS,HX (JL 3 n),jE,show p+(n+3) - 2=p+(n+1)from rfl,Nat.max_eq_right (zB ..),jS]
theorem Sq{l:Nat}(f:Nat)(hl:4≤l):∃k,l+f=k+4:=(Nat.exists_eq_add_of_le hl).elim fun k e=>⟨k+f,by rw[e,zO,jH]⟩
theorem IC{A B:Txt}{rs:List Nat}(hA:Nl A):Ck (A++(flat rs++B)) A.length (A++flat rs).length=first rs A.length:=by
 cases rs with
 |nil=>
  rw[show A++flat []=A from zE _]
  unfold Ck
  rw[jl];rfl
 |cons r rs=>
  have hl:(A++flat (r::rs)).length=A.length+((Ae r).length+(flat rs).length):=by
   show(A++(Ae r++flat rs)).length=_
   rw[zd,zd]
  refine zg (Sq (flat rs).length (Bt r)) fun k e=>?_
  rw[e]at hl
  rw[Ks (n:=k+1) hl]
  exact Fu (r::rs) A _ hA rfl rfl (by rw[hl];exact Nat.add_lt_add_left (Jt (by decide:0 < 2)) _) (by rw[hl];exact zP _)
theorem SU{A B:Txt}{r j:Nat}{rs:List Nat}(h0:0 < j)(hj:j < (Ae r).length):
  Ck (A++(Ae r++(flat rs++B))) (A.length+j) (A++(Ae r++flat rs)).length=first rs (A.length+(Ae r).length):=by
 have hin:∀i,A.length+j+i < A.length+(Ae r).length→Fy (A++(Ae r++(flat rs++B))) (A++(Ae r++flat rs)).length (A.length+j+i)=none:=fun i hi=>by
  rw[zO]at hi ⊢;exact Ol (z4 h0 (zB _ _)) (Nat.lt_of_add_lt_add_left hi)
 have hl:(A++(Ae r++flat rs)).length=A.length+((Ae r).length+(flat rs).length):=by rw[zd,zd]
 refine zg (Nat.exists_eq_add_of_le (Jm hj)) fun m hm=>?_
 cases rs with
 |nil=>
  have hl:_=A.length+(Ae r).length:=hl
  by_cases h3:A.length+j+3≤A.length+(Ae r).length
  ·refine zg (Nat.exists_eq_add_of_le h3) fun n e=>?_
   rw[zO,jH 3]at e
   rw[Ks (hl.trans e)]
   exact Ft fun i hi=>hin i (by rw[e];exact Nat.add_lt_add_left (jm hi (jF (zS _))) _)
  ·unfold Ck
   rw[hl,show Nat.blt (A.length+(Ae r).length - (A.length+j)) 3=true from zD (Nat.sub_lt_left_of_lt_add (je (Jm hj) _) (Jk h3))];rfl
 |cons r2 rs=>
  have hl:=hl.trans (zy (fun x=>A.length+((Ae r).length+x)) (zd:(Ae r2++flat rs).length=_))
  refine zg (Sq (flat rs).length (Bt r2)) fun k e=>?_
  rw[e]at hl
  have hA':(A++Ae r).length=A.length+(Ae r).length:=zd
  rw[Ks (n:=k+1+m) (by rw[hl,hm,zO j,←zO A.length,jH m];exact zy (A.length+j+·) (jM (k+1) 3 m)),jM _ m 1,Fv fun i hi=>hin i (by rw[hm,←zO];exact Nat.add_lt_add_left hi _),zO A.length,←hm,←hA']
  rw[←zO,←hA']at hl
  exact Fu (B:=B) (r2::rs) (A++Ae r) _ (.row r) (by rw[zl]) (by rw[zl]) (by rw[hl];exact Nat.add_lt_add_left (Jt (by decide:0 < 2)) _) (by rw[hl];exact zP _)
end
end Ag.Pq
namespace Ag.Pu
inductive Md where
 |nm (e:Bool) |esc |cm
 |q1 (d:Bool) (f:Nat) |q2 (d:Bool) (f:Nat) |s1 (d:Bool) (f:Nat) |e1 (d:Bool) (f:Nat) |s3 (d:Bool) (f k:Nat) |e3 (d:Bool) (f:Nat)
structure A1 where
 md:Md
 lv:Nat
 ln:Nat
 gd:List Nat
noncomputable def qc(d:Bool):Nat:=cond d 34 39
noncomputable def A1.to(a:A1)(m:Md):A1:=⟨m,a.lv,a.ln,a.gd⟩
noncomputable def A1.nl(a:A1)(m:Md):A1:=⟨m,a.lv,a.ln+1,cond (Nat.beq a.lv 0) (a.gd++[a.ln+1]) a.gd⟩
noncomputable def A1.HK(a:A1)(m:Md):A1:=⟨m,a.lv,a.ln+1,a.gd⟩
noncomputable def bN(a:A1)(e:Bool)(c:Nat):A1:=
 cond (Nat.beq c 120) (a.to (.nm e)) (cond (Nat.beq c 10) (a.nl (.nm false)) (cond (Nat.beq c 40) ⟨.nm false,a.lv+1,a.ln,a.gd⟩ (cond (Nat.beq c 41) ⟨.nm false,a.lv - 1,a.ln,a.gd⟩
 (cond (Nat.beq c 34) (a.to (.q1 true a.ln)) (cond (Nat.beq c 39) (a.to (.q1 false a.ln)) (cond (Nat.beq c 35) (a.to .cm) (cond (Nat.beq c 92) (a.to .esc) (a.to (.nm false)))))))))
noncomputable def We(a:A1)(d:Bool)(f c:Nat):A1:=
 cond (Nat.beq c (qc d)) (a.to (.nm false)) (cond (Nat.beq c 10) (a.nl (.nm false)) (cond (Nat.beq c 92) (a.to (.e1 d f)) (a.to (.s1 d f))))
noncomputable def Qe(a:A1)(d:Bool)(f k c:Nat):A1:=
 cond (Nat.beq c (qc d)) (cond (Nat.ble 2 k) (a.to (.nm false)) (a.to (.s3 d f (k+1))))
  (cond (Nat.beq c 10) (a.HK (.s3 d f 0)) (cond (Nat.beq c 92) (a.to (.e3 d f)) (a.to (.s3 d f 0))))
noncomputable def bit(a:A1)(c:Nat):A1:=match a.md with
 | .nm e=>bN a e c
 | .esc=>cond (Nat.beq c 10) (a.HK (.nm true)) (a.to (.nm false))
 | .cm=>cond (Nat.beq c 10) (a.nl (.nm false)) a
 | .q1 d f=>cond (Nat.beq c (qc d)) (a.to (.q2 d f)) (We a d f c)
 | .q2 d f=>cond (Nat.beq c (qc d)) (a.to (.s3 d f 0)) (bN a false c)
 | .s1 d f=>We a d f c
 | .e1 d f=>cond (Nat.beq c 10) (a.HK (.s1 d f)) (a.to (.s1 d f))
 | .s3 d f k=>Qe a d f k c
 | .e3 d f=>cond (Nat.beq c 10) (a.HK (.s3 d f 0)) (a.to (.s3 d f 0))
theorem Ql{P:A1→Prop}(b:A1)(c:Nat)(o:∀m lv,P ⟨m,lv,b.ln,b.gd⟩)(nl:∀m,P (b.nl m))(ln:∀m,P (b.HK m)):P (bit b c):=by
 have cn:∀{c:Bool} {x y:A1},P x→P y→P (cond c x y):=fun{c _ _} h1 h2=>by induction c using za <;>assumption
 have bn:∀{e},P (bN b e c):=cn (o _ _) (cn (nl _) (cn (o _ _) (cn (o _ _) (cn (o _ _) (cn (o _ _) (cn (o _ _) (cn (o _ _) (o _ _))))))))
 have bs:∀{d f},P (We b d f c):=cn (o _ _) (cn (nl _) (cn (o _ _) (o _ _)))
 cases b with |mk m lv n g=>induction m using Md.casesOn with
 |nm e=>exact bn
 |esc=>exact cn (ln _) (o _ _)
 |cm=>exact cn (nl _) (o _ _)
 |q1 d f=>exact cn (o _ _) bs
 |q2 d f=>exact cn (o _ _) bn
 |s1 d f=>exact bs
 |e1 d f=>exact cn (ln _) (o _ _)
 |s3 d f k=>exact cn (cn (o _ _) (o _ _)) (cn (ln _) (cn (o _ _) (o _ _)))
 |e3 d f=>exact cn (ln _) (o _ _)
noncomputable def run:A1→Txt→A1
 |a,[]=>a
 |a,c::y=>run (bit a c) y
theorem Kl(a:A1)(x y:Txt):run a (x++y)=run (run a x) y:=by
 induction x generalizing a with
 |nil=>rfl
 |cons c x ih=>exact ih _
theorem Cw(a:A1):bit (bit a 120) 120=bit a 120:=by
 obtain⟨m,l,n,g⟩:=a
 induction m using Md.casesOn with
 |q1 d f=>induction d using za <;>rfl
 |q2 d f=>induction d using za <;>rfl
 |s1 d f=>induction d using za <;>rfl
 |s3 d f k=>induction d using za <;>rfl
 |e1 d f=>induction d using za <;>rfl
 |e3 d f=>induction d using za <;>rfl
 |_=>rfl
theorem Xd(a:A1):bit (bit a 10) 120=bit a 10:=by
 obtain⟨m,l,n,g⟩:=a
 induction m using Md.casesOn with
 |q1 d f=>induction d using za <;>rfl
 |q2 d f=>induction d using za <;>rfl
 |s1 d f=>induction d using za <;>rfl
 |s3 d f k=>induction d using za <;>rfl
 |e1 d f=>induction d using za <;>rfl
 |e3 d f=>induction d using za <;>rfl
 |_=>rfl
theorem Kf:∀{x t:Txt},pre? x t=true→t=x++t.drop x.length
 |[],_,_=>rfl
 |a::x,b::y,h=>by
  induction hb:Nat.beq a b using za with
  |true=>
   have h':pre? x y=true:=by have h2:cond (Nat.beq a b) (pre? x y) false=true:=h;rw[hb]at h2;exact h2
   have:=Kf h'
   rw[zw hb]
   exact zy (b::·) this
  |false=>have h2:cond (Nat.beq a b) (pre? x y) false=true:=h;rw[hb]at h2;exact absurd h2 jp
theorem Ch{o:Nat}{old new:Txt}(h:∀a,run a (o::old)=run a new):∀(t:Txt) (k:Nat) (a:A1),run a (AF (o::old) new k t)=run a (t.drop k)
 |[],k,a=>by rw[List.drop_nil];induction k using zz <;>rfl
 |c::y,k+1,a=>Ch h y k a
 |c::y,0,a=>by
  induction hp:pre? (o::old) (c::y)using za with
  |true=>
   have e:AF (o::old) new 0 (c::y)=new++AF (o::old) new old.length y:=by
    show cond (pre? (o::old) (c::y)) _ _=_
    rw[hp];rfl
   rw[e,Kl,Ch h y old.length,←h,←Kl]
   exact zy (run a) (Kf hp).symm
  |false=>
   have e:AF (o::old) new 0 (c::y)=c::AF (o::old) new 0 y:=by
    show cond (pre? (o::old) (c::y)) _ _=_
    rw[hp];rfl
   rw[e]
   exact Ch h y 0 _
noncomputable def sq(t:Txt):Txt:=
 AF [10,120] [10] 0 (AF [120,120] [120] 0 (AF [120,120] [120] 0 (AF [120,120,120,120] [120] 0
  (AF [120,120,120,120,120,120,120,120] [120] 0 (t.map CP)))))
theorem Zh(a:A1)(t:Txt):run a (sq t)=run a (t.map CP):=by
 have h1:∀a,run a [10,120]=run a [10]:=fun a=>Xd a
 have h2:∀a,run a [120,120]=run a [120]:=fun a=>Cw a
 have h4:∀a,run a [120,120,120,120]=run a [120]:=fun a=>by
  show bit (bit (bit (bit a 120) 120) 120) 120=_
  rw[Cw,Cw,Cw];rfl
 have h8:∀a,run a [120,120,120,120,120,120,120,120]=run a [120]:=fun a=>by
  show bit (bit (bit (bit (bit (bit (bit (bit a 120) 120) 120) 120) 120) 120) 120) 120=_
  rw[Cw,Cw,Cw,Cw,Cw,Cw,Cw];rfl
 unfold sq
 rw[Ch h1 _ 0,jZ,Ch h2 _ 0,jZ,Ch h2 _ 0,jZ,Ch h4 _ 0,jZ,Ch h8 _ 0,jZ]
noncomputable def tok(c:Nat):Prop:=c=120∨c=10∨c=40∨c=41∨c=34∨c=39∨c=35∨c=92
theorem Cg{o:Nat}{old new:Txt}{P:Nat→Prop}(hn:∀c∈new,P c):∀(t:Txt) (k:Nat),(∀c∈t,P c)→∀c∈AF (o::old) new k t,P c
 |[],0,_,c,h=>nomatch h
 |[],k+1,_,c,h=>nomatch h
 |d::y,k+1,H,c,h=>Cg hn y k (fun c h=>H c (.tail _ h)) c h
 |d::y,0,H,c,h=>by
  have h:c∈cond (pre? (o::old) (d::y)) (new++AF (o::old) new old.length y) (d::AF (o::old) new 0 y):=h
  induction hp:pre? (o::old) (d::y)using za with
  |true=>
   rw[hp]at h
   induction zt.mp h using jY with
   |inl h=>exact hn c h
   |inr h=>exact Cg hn y _ (fun c h=>H c (.tail _ h)) c h
  |false=>
   rw[hp]at h
   cases h with
   |head=>exact H _ (.head _)
   |tail _ h=>exact Cg hn y _ (fun c h=>H c (.tail _ h)) c h
theorem Gx{l:Txt}{b c:Nat}(h:cin c (b::l)=true):c=b∨cin c l=true:=by
 have h:cond (Nat.beq c b) true (cin c l)=true:=h
 induction hb:Nat.beq c b using za with
 |true=>exact .inl (zw hb)
 |false=>rw[hb]at h;exact .inr h
theorem ZT(c:Nat):tok (CP c):=by
 unfold CP
 induction h1:cin c [40,123,91]using za with
 |true=>exact .inr (.inr (.inl rfl))
 |false=>
  induction h2:cin c [41,125,93]using za with
  |true=>exact .inr (.inr (.inr (.inl rfl)))
  |false=>
   induction h3:cin c [34,39,92,10,35]using za with
   |false=>exact .inl rfl
   |true=>
    show tok c
    exact(Gx h3).elim (fun e=>.inr (.inr (.inr (.inr (.inl e))))) fun h=>(Gx h).elim (fun e=>.inr (.inr (.inr (.inr (.inr (.inl e)))))) fun h=>
     (Gx h).elim (fun e=>.inr (.inr (.inr (.inr (.inr (.inr (.inr e))))))) fun h=>(Gx h).elim (fun e=>.inr (.inl e)) fun h=>(Gx h).elim (fun e=>.inr (.inr (.inr (.inr (.inr (.inr (.inl e))))))) nofun
theorem ZS(t:Txt):∀c∈sq t,tok c:=by
 have hx:∀c∈[120],tok c:=fun c h=>by cases h with |head=>exact .inl rfl |tail _ h=>exact nomatch h
 have hn:∀c∈[10],tok c:=fun c h=>by cases h with |head=>exact .inr (.inl rfl) |tail _ h=>exact nomatch h
 refine Cg hn _ _ (Cg hx _ _ (Cg hx _ _ (Cg hx _ _ (Cg hx _ _ fun c h=>?_))))
 refine Aa (zA.mp h) fun d _ hq2=>?_;subst hq2
 exact ZT d
noncomputable def Ends(t:Txt):Prop:=t=[]∨∃u,t=u++[10]
theorem BL{o x:Nat}{old w new:Txt}(hw:old=w++[x])(hx:x≠10):∀(u:Txt) (k:Nat),k≤u.length→∃v,AF (o::old) new k (u++[10])=v++[10]
 |[],0,_=>⟨[],by
   have:pre? (o::old) [10]=false:=by
    rw[hw]
    show cond (Nat.beq o 10) (pre? (w++[x]) []) false=false
    induction w using zo <;>cases Nat.beq o 10 <;>rfl
   show cond (pre? (o::old) [10]) _ _=_
   rw[this];rfl⟩
 |c::u,k+1,h=>BL hw hx u k (Nat.le_of_succ_le_succ h)
 |c::u,0,_=>by
  induction hp:pre? (o::old) (c::(u++[10]))using za with
  |false=>
   obtain⟨v,hv⟩:=BL (new:=new) hw hx u 0 (zY _)
   refine⟨c::v,?_⟩
   show cond (pre? (o::old) (c::(u++[10]))) _ _=_
   rw[hp];exact zy (c::·) hv
  |true=>
   have e:=jx (Kf hp)
   have hl:old.length≤u.length:=by
    have e2:u++[10]=old++(u++[10]).drop old.length:=e.2
    induction hd:(u++[10]).drop old.length using zo with
    |nil=>
     rw[hd,zE,hw]at e2
     exact absurd (jx (List.append_inj' e2 rfl).2).1.symm hx
    |cons y ys=>
     have:=zy List.length e2
     rw[hd]at this
     simp only[zd,zK,List.length_nil]at this
     lia
   obtain⟨v,hv⟩:=BL (new:=new) hw hx u old.length hl
   refine⟨new++v,?_⟩
   show cond (pre? (o::old) (c::(u++[10]))) _ _=_
   rw[hp,zl];exact zy (new++·) hv
theorem TK{t:Txt}(h:Ends t):Ends (sq t):=by
 induction h using jY with
 |inl h=>subst h;exact .inl rfl
 |inr h=>
  refine zg h ?_;clear h;intro u hq1;subst hq1
  have e:(u++[10]).map CP=u.map CP++[10]:=by rw[jh];rfl
  unfold sq
  rw[e]
  refine zg (BL (o:=120) (w:=[120,120,120,120,120,120]) (x:=120) (new:=[120]) rfl (by decide) (u.map CP) 0 (zY _)) fun v hv=>?_
  rw[show AF [120,120,120,120,120,120,120,120] [120] 0 (u.map CP++[10])=_ from hv]
  refine zg (BL (o:=120) (w:=[120,120]) (x:=120) (new:=[120]) rfl (by decide) v 0 (zY _)) fun v hv=>?_
  rw[show AF [120,120,120,120] [120] 0 (_++[10])=_ from hv]
  refine zg (BL (o:=120) (w:=[]) (x:=120) (new:=[120]) rfl (by decide) v 0 (zY _)) fun v hv=>?_
  rw[show AF [120,120] [120] 0 (_++[10])=_ from hv]
  refine zg (BL (o:=120) (w:=[]) (x:=120) (new:=[120]) rfl (by decide) v 0 (zY _)) fun v hv=>?_
  rw[show AF [120,120] [120] 0 (_++[10])=_ from hv]
  refine zg (BL (o:=10) (w:=[]) (x:=120) (new:=[10]) rfl (by decide) v 0 (zY _)) fun v hv=>?_
  exact .inr ⟨v,hv⟩
theorem Bh{o:Nat}{old new:Txt}(hn:new.length≤old.length+1):∀(t:Txt) (k:Nat),(AF (o::old) new k t).length≤t.length - k
 |[],k=>by induction k using zz <;>exact zY _
 |c::y,k+1=>by
  rw[zK,Nat.add_sub_add_right]
  exact Bh hn y k
 |c::y,0=>by
  show List.length (cond (pre? (o::old) (c::y)) (new++AF (o::old) new old.length y) (c::AF (o::old) new 0 y))≤_
  induction hp:pre? (o::old) (c::y)using za with
  |false=>exact z3 (Bh hn y 0)
  |true=>
   have e:=zy List.length (Kf hp)
   have:=Bh (o:=o) hn y old.length
   show(new++AF (o::old) new old.length y).length≤_
   simp only[zd,zK,List.drop_succ_cons,jC]at e ⊢
   lia
theorem Yh(t:Txt):(sq t).length≤t.length:=by
 unfold sq
 refine zp (Bh (by decide) _ 0) (zp (Bh (by decide) _ 0) (zp (Bh (by decide) _ 0) (zp (Bh (by decide) _ 0) (zp (Bh (by decide) _ 0) ?_))))
 rw[jb];exact zu _
section
open L04
noncomputable abbrev I(n:Nat):Option LV:=some (.v (.int (.ofNat n)))
noncomputable def gv(g:List Nat):List Val:=g.map fun k=>.int (.ofNat k)
theorem CI(g:List Nat)(k:Nat):gv (g++[k])=gv g++[.int (.ofNat k)]:=jh
theorem BH(g:List Nat):(gv g).length=g.length:=jb ..
noncomputable def PM(t:Txt)(cont lv ln:Nat)(g:List Nat)(i:Nat)(ch q f w:Option LV)(sf:List (Option LV))(h:List Cell):St:=
 ⟨[some (.v (.str t)),I cont,I lv,I ln,some (.loc 0),some (.app 0),I i,I t.length,ch,q,f,w],[gv g],sf,h⟩
theorem CH{a b:Nat}(h:a < b):Nat.blt a b=true:=zD h
theorem HX{a b:Nat}(h:b≤a):Nat.blt a b=false:=by
 induction e:Nat.blt a b using za with
 |false=>rfl
 |true=>exact absurd (zC e) (Nat.not_le_of_lt (Jd h))
theorem FH{a b:Nat}(h:a=b):Nat.beq a b=true:=by rw[h];exact jA b
theorem B3{a b:Nat}(h:a≠b):Nat.beq a b=false:=by
 induction e:Nat.beq a b using za with
 |false=>rfl
 |true=>exact absurd (zw e) h
section
variable {rx:Rx}
theorem NL{t:Txt}{i c:Nat}(h:t[i]? =some c):Bu rx .idx (.str t) (.int (.ofNat i))=some (.str [c]):=by
 have h:Mi t (.ofNat i)=some c:=h
 show(Mi t (.ofNat i)).bind _=_
 rw[h];rfl
end
theorem DU{t:Txt}{i:Nat}(h:i < t.length):∃c,t[i]? =some c∧t.drop i=c::t.drop (i+1):=
 ⟨t[i],jq h,j3 h⟩
theorem ZH(l:Nat):(Int.ofNat (l+1) - Int.ofNat 1)=Int.ofNat l:=Int.add_sub_cancel (Int.ofNat l) 1
theorem SW{l:Txt}{n:Nat}:l.take (min n l.length)=l.take n:=by
 by_cases h:n≤l.length
 ·rw[jz h]
 ·rw[JI (Jl h),List.take_length,jU (Jl h)]
theorem SH{t:Txt}{i:Nat}(h:i < t.length)(k:Nat):slice t (Int.ofNat (i+1) - Int.ofNat 1) (Int.ofNat (i+1)+Int.ofNat k)=(t.drop i).take (k+1):=by
 rw[ZH]
 show(t.take (min (i+1+k) t.length)).drop (min i t.length)=_
 rw[SW,jz (Jm h),JO,zO,jH 1 k,jS]
theorem WS(c:Nat)(y:Txt)(q:Nat):Bo ((c::y).take 1) [q]=Nat.beq c q:=by
 show cond (Nat.beq c q) _ false=_
 induction Nat.beq c q using za <;>rfl
theorem FB{c k:Nat}(h:c=k):Bo [c] [k]=true:=by
 show cond (Nat.beq c k) true false=_
 rw[FH h];rfl
theorem Fz{c k:Nat}(h:c≠k):Bo [c] [k]=false:=by
 show cond (Nat.beq c k) true false=_
 rw[B3 h];rfl
theorem QC(a f:Nat):FJ (Int.ofNat a - Int.ofNat 1) (Int.ofNat f)=Nat.beq a (f+1):=by
 induction a using zz with
 |zero=>rfl
 |succ l=>rw[ZH];rfl
theorem DV{t:Txt}(h:Ends t)(i:Nat):Ends (t.drop i):=by
 induction h using jY with
 |inl h=>exact .inl (by rw[h,List.drop_nil])
 |inr h=>
  refine zg h ?_;clear h;intro u hq1;subst hq1
  by_cases hi:i≤u.length
  ·exact .inr ⟨u.drop i,jR hi⟩
  ·exact .inl (Jv (by rw[zd];exact Jk hi))
theorem Cz{c:Nat}{y:Txt}(h:Ends (c::y))(hc:c≠10):y≠[]:=by
 intro e
 subst e
 induction h using jY with
 |inl h=>exact nomatch h
 |inr h=>
  refine zg h fun u hu=>?_
  induction u using zo with
  |nil=>exact hc (jx hu).1
  |cons a u=>exact absurd (jx hu).2 (by induction u using zo <;>exact nofun)
theorem J3{t:Txt}{i:Nat}(h:t.drop i≠[]):i < t.length:=by
 refine Jk fun hl=>h (Jv hl)
variable {C:Cfg}{X:AN→St→Prop}
theorem Y1{C:Cfg}{K:Bool→St→Prop}{σ:St}{c i:Nat}(hl:Ax σ.loc i=some (.v (.str [c])))(hc:c=34∨c=39)(k:K true σ):
  Kz C X (.bl false (.cons (.p2 .eq (.loc i) (.lit (.str [34]))) (.cons (.p2 .eq (.loc i) (.lit (.str [39]))) .nil))) K σ:=by
 show BP (Ax σ.loc i) _
 rw[hl]
 induction hc using jY with
 |inl h=>exact AL (FB h) k
 |inr h=>
  refine BI (Fz (by rw[h];decide)) ?_
  show BP (Ax σ.loc i) _
  rw[hl]
  show K (Bo [c] [39]) σ
  rw[FB h]
  exact k
noncomputable def gy(q:Nat)(l:Txt):Bool:=Bo (l.take 3) [q,q,q]
theorem WU{q:Nat}:∀{l:Txt},gy q l=true→l=q::q::q::l.drop 3
 |[],h=>nomatch h
 |[a],h=>by
  have h:cond (Nat.beq a q) false false=true:=h
  induction hb:Nat.beq a q using za <;>rw[hb]at h <;>exact nomatch h
 |[a,b],h=>by
  have h:cond (Nat.beq a q) (cond (Nat.beq b q) false false) false=true:=h
  induction hb:Nat.beq a q using za <;>induction hb':Nat.beq b q using za <;>rw[hb,hb']at h <;>exact nomatch h
 |a::b::c::y,h=>by
  have h:cond (Nat.beq a q) (cond (Nat.beq b q) (cond (Nat.beq c q) true false) false) false=true:=h
  induction hb:Nat.beq a q using za with
  |false=>rw[hb]at h;exact nomatch h
  |true=>
   induction hb':Nat.beq b q using za with
   |false=>rw[hb,hb']at h;exact nomatch h
   |true=>
    induction hb2:Nat.beq c q using za with
    |false=>rw[hb,hb',hb2]at h;exact nomatch h
    |true=>rw[zw hb,zw hb',zw hb2];rfl
theorem ZV{d:Bool}{f lv ln:Nat}{g:List Nat}{y:Txt}(hE:Ends (qc d::y))(h:gy (qc d) (qc d::y)=false):
  run ⟨.s3 d f 0,lv,ln,g⟩ (qc d::y)=run ⟨.s3 d f 0,lv,ln,g⟩ y:=by
 induction y using zo with
 |nil=>exact absurd rfl (Cz hE (by induction d using za <;>decide))
 |cons b y=>
  induction hb:Nat.beq b (qc d)using za with
  |false=>
   have e:run ⟨.s3 d f 0,lv,ln,g⟩ (qc d::b::y)=run (Qe ⟨.s3 d f 1,lv,ln,g⟩ d f 1 b) y:=by induction d using za <;>rfl
   rw[e]
   show _=run (Qe _ d f 0 b) y
   unfold Qe;rw[hb];rfl
  |true=>
   cases zw hb
   induction y using zo with
   |nil=>
    induction hE using jY with
    |inl h=>exact nomatch h
    |inr h=>
     refine zg h fun u hu=>?_
     have:=List.append_inj' (show[qc d]++[qc d]=u++[10]from hu) rfl
     exact absurd (jx this.2).1 (by induction d using za <;>decide)
   |cons c y=>
    induction hc:Nat.beq c (qc d)using za with
    |true=>
     refine absurd h ?_
     cases zw hc
     induction d using za <;>exact Bool.noConfusion
    |false=>
     have e:∀k,Qe ⟨.s3 d f k,lv,ln,g⟩ d f k c=Qe ⟨.s3 d f 0,lv,ln,g⟩ d f 0 c:=fun k=>by unfold Qe;rw[hc];rfl
     have e1:run ⟨.s3 d f 0,lv,ln,g⟩ (qc d::qc d::c::y)=run (Qe ⟨.s3 d f 2,lv,ln,g⟩ d f 2 c) y:=by induction d using za <;>rfl
     have e2:run ⟨.s3 d f 0,lv,ln,g⟩ (qc d::c::y)=run (Qe ⟨.s3 d f 1,lv,ln,g⟩ d f 1 c) y:=by induction d using za <;>rfl
     rw[e1,e2,e 2,e 1]
theorem ZU{d:Bool}{f lv ln:Nat}{g:List Nat}{y:Txt}(hE:Ends (qc d::y))(h:gy (qc d) (qc d::y)=false):
  run ⟨.q1 d f,lv,ln,g⟩ y=run ⟨.s1 d f,lv,ln,g⟩ y:=by
 induction y using zo with
 |nil=>exact absurd rfl (Cz hE (by induction d using za <;>decide))
 |cons b y=>
  induction hb:Nat.beq b (qc d)using za with
  |false=>
   show run (cond (Nat.beq b (qc d)) _ _) y=run (We _ d f b) y
   rw[hb];rfl
  |true=>
   cases zw hb
   induction y using zo with
   |nil=>
    induction hE using jY with
    |inl h=>exact nomatch h
    |inr h=>
     refine zg h fun u hu=>?_
     have:=List.append_inj' (show[qc d]++[qc d]=u++[10]from hu) rfl
     exact absurd (jx this.2).1 (by induction d using za <;>decide)
   |cons c y=>
    induction hc:Nat.beq c (qc d)using za with
    |true=>
     refine absurd h ?_
     cases zw hc
     induction d using za <;>exact Bool.noConfusion
    |false=>
     have e1:run ⟨.q1 d f,lv,ln,g⟩ (qc d::c::y)=run (bit ⟨.q2 d f,lv,ln,g⟩ c) y:=by induction d using za <;>rfl
     have e2:run ⟨.s1 d f,lv,ln,g⟩ (qc d::c::y)=run (bN ⟨.nm false,lv,ln,g⟩ false c) y:=by induction d using za <;>rfl
     rw[e1,e2]
     show run (cond (Nat.beq c (qc d)) _ _) y=_
     rw[hc];rfl
noncomputable def Gd(g:List Nat)(t:Txt)(i:Nat):Prop:=g.length+(t.length - i) < AJ
section
variable {g:List Nat}{t:Txt}{i j:Nat}
theorem Gd.mono(h:Gd g t i)(hj:i≤j):Gd g t j:=jm (je (Nat.sub_le_sub_left hj _) _) h
theorem Gd.nl(h:Gd g t i)(hi:i < t.length){x:Nat}:Gd (g++[x]) t (i+1):=by
 refine jm ?_ h
 rw[zd,zO]
 exact je (by show 1+_≤_;lia) _
theorem Gd.len(h:Gd g t i):Nat.blt (gv g).length AJ=true:=CH (by rw[BH];exact jm (zB _ _) h)
end
structure WV(qs:Txt)(w lv:Nat)(M:Nat→List Nat→A1):Prop where
 x:∀ln g y,run (M ln g) (120::y)=run (M ln g) y
 q:∀ln g c y,Bo ((c::y).take (w+1)) qs=true→w+1≤(c::y).length∧run (M ln g) (c::y)=run ⟨.nm false,lv,ln,g⟩ ((c::y).drop (w+1))
 n:∀ln g y,Bo ((10::y).take (w+1)) qs=false→run (M ln g) (10::y)=cond (Nat.beq w 0) (run ⟨.nm false,lv,ln+1,cond (Nat.beq lv 0) (g++[ln+1]) g⟩ y) (run (M (ln+1) g) y)
 b:∀ln g c y,run (M ln g) (92::c::y)=run (M (cond (Nat.beq c 10) (ln+1) ln) g) y
 o:∀ln g c y,Ends (c::y)→Bo ((c::y).take (w+1)) qs=false→c≠10→c≠92→run (M ln g) (c::y)=run (M ln g) y
theorem mH{d:Bool}{f lv:Nat}:WV [qc d] 0 lv fun ln g=>⟨.s1 d f,lv,ln,g⟩ where
 x:=fun _ _ _=>by induction d using za <;>rfl
 q:=fun ln g c y h=>⟨z3 (zY _),by show run (We _ d f c) y=_;unfold We;rw[←WS c y,h];rfl⟩
 n:=fun _ _ _ _=>by induction d using za <;>rfl
 b:=fun ln g c y=>by induction d using za <;>(show run (cond (Nat.beq c 10) _ _) y=_;induction Nat.beq c 10 using za <;>rfl)
 o:=fun ln g c y _ h h2 h3=>by show run (We _ d f c) y=_;unfold We;rw[←WS c y,h,B3 h2,B3 h3];rfl
theorem mI{d:Bool}{f lv:Nat}:WV [qc d,qc d,qc d] 2 lv fun ln g=>⟨.s3 d f 0,lv,ln,g⟩ where
 x:=fun _ _ _=>by induction d using za <;>rfl
 q:=fun ln g c y h=>by
  have e:=WU h
  refine⟨by rw[e];exact JL _ _,?_⟩
  show _=run _ ((c::y).drop 3)
  rw[e];induction d using za <;>rfl
 n:=fun _ _ _ _=>by induction d using za <;>rfl
 b:=fun ln g c y=>by induction d using za <;>(show run (cond (Nat.beq c 10) _ _) y=_;induction Nat.beq c 10 using za <;>rfl)
 o:=fun ln g c y hE h h2 h3=>by
  induction hb:Nat.beq c (qc d)using za with
  |true=>rw[zw hb]at hE h ⊢;exact ZV hE h
  |false=>show run (Qe _ d f 0 c) y=_;unfold Qe;rw[hb,B3 h2,B3 h3];rfl
noncomputable def hJ(C:Cfg)(X:AN→St→Prop)(Q:Out→St→Prop)(N:Nat)(σ:St):Prop:=GQ (Kz C X F0) (Au C X FY) (Au C X FZ) Q N σ
theorem inner{t qs:Txt}{w f lv i0:Nat}{M:Nat→List Nat→A1}(MO:WV qs w lv M){F:A1}{sf:List (Option LV)}{h:List Cell}{Q:Out→St→Prop}(hE:Ends t)
  (HQ:∀j ln g ch,i0≤j→j≤t.length→run ⟨.nm false,lv,ln,g⟩ (t.drop j)=F→Gd g t j→Q .next (PM t 0 lv ln g j ch (some (.v (.str qs))) (I f) (I w) sf h))
  (HE:∀ln g ch,F=M ln g→Q .next (PM t (cond (Nat.beq ln (f+1)) 2 3) lv ln g t.length ch (some (.v (.str qs))) (I f) (I w) sf h)) (N:Nat):
  ∀(i ln:Nat) (g:List Nat) (ch:Option LV),i0≤i→i≤t.length→t.length - i≤N→run (M ln g) (t.drop i)=F→Gd g t i→hJ C X Q (N+1) (PM t 0 lv ln g i ch (some (.v (.str qs))) (I f) (I w) sf h):=by
 have END:∀{N i ln:Nat} {g:List Nat} {ch:Option LV},t.length≤i→i≤t.length→run (M ln g) (t.drop i)=F→hJ C X Q (N+1) (PM t 0 lv ln g i ch (some (.v (.str qs))) (I f) (I w) sf h):=by
  intro N i ln g ch hi hi' hr
  rw[Jv hi]at hr
  rw[jJ hi' hi]
  have he:=HE ln g ch hr.symm
  conv=>whnf
  refine BI (HX (zu _)) ?_
  conv=>whnf
  induction hb:Nat.beq ln (f+1)using za with
  |true=>
   rw[hb]at he
   refine AL ((QC ln f).trans hb) ?_
   conv=>whnf
   exact he
  |false=>
   rw[hb]at he
   refine BI ((QC ln f).trans hb) ?_
   conv=>whnf
   exact he
 induction N with
 |zero=>exact fun i ln g ch _ hi hN hr _=>END (JN (Nat.le_zero.mp hN)) hi hr
 |succ N IH=>
  intro i ln g ch hi0 hi hN hr hg
  by_cases hlt:i < t.length
  ·refine Aa (DU hlt) fun c hc hd=>?_
   have hEi:=DV hE i
   rw[hd]at hr hEi
   have hp:=SH hlt w
   rw[hd]at hp
   have K:∀{j ln g ch},i < j→j≤t.length→run (M ln g) (t.drop j)=F→Gd g t i→hJ C X Q (N+1) (PM t 0 lv ln g j ch (some (.v (.str qs))) (I f) (I w) sf h):=fun hj hj' hr hg=>
    IH _ _ _ _ (zp hi0 (Jm hj)) hj' (Je (z4 (Nat.sub_lt_sub_left hlt hj) hN)) hr (hg.mono (Jm hj))
   conv=>whnf
   refine AL (CH hlt) ?_
   conv=>whnf
   refine Bv (NL hc) ?_
   conv=>whnf
   by_cases h1:c=120
   ·refine AL (FB h1) ?_
    conv=>whnf
    exact K (zS i) hlt (by rw[←hr,h1,MO.x]) hg
   ·refine BI (Fz h1) ?_
    conv=>whnf
    induction hq:Bo ((c::t.drop (i+1)).take (w+1)) qs using za with
    |true=>
     refine Aw (MO.q ln g c _ hq) fun hw hr'=>?_
     have hw:i+1+w≤t.length:=by
      rw[←hd,jC]at hw
      rw[zO,jH 1 w];exact Jx hi hw
     refine AL ((zy (Bo · qs) hp).trans hq) ?_
     conv=>whnf
     refine HQ (i+1+w) ln g _ (zp hi0 (zp (zP i) (zB _ _))) hw ?_ (hg.mono (zp (zP i) (zB _ _)))
     rw[←hr,hr',←hd,j0,jH w 1,zO]
    |false=>
     refine BI ((zy (Bo · qs) hp).trans hq) ?_
     conv=>whnf
     by_cases h2:c=10
     ·rw[h2]at hr hq
      rw[MO.n ln g _ hq]at hr
      refine AL (FB h2) ?_
      conv=>whnf
      induction hw:Nat.beq w 0 using za with
      |false=>
       rw[hw]at hr
       refine BI (hw) ?_
       conv=>whnf
       exact K (zS i) hlt hr hg
      |true=>
       rw[hw]at hr
       refine AL (hw) ?_
       conv=>whnf
       induction hl:Nat.beq lv 0 using za with
       |true=>
        rw[hl]at hr
        have k:=HQ (i+1) (ln+1) (g++[ln+1]) (some (.v (.str [c]))) (z7 hi0) hlt hr (hg.nl hlt)
        unfold PM at k
        rw[CI]at k
        refine AL (hl) ?_
        conv=>whnf
        refine AL (hg.len) ?_
        conv=>whnf
        exact k
       |false=>
        rw[hl]at hr
        refine BI (hl) ?_
        conv=>whnf
        exact HQ (i+1) (ln+1) g _ (z7 hi0) hlt hr (hg.mono (zP i))
     ·refine BI (Fz h2) ?_
      conv=>whnf
      by_cases h3:c=92
      ·have hlt2:=J3 (Cz hEi h2)
       refine Aa (DU hlt2) fun c2 hc2 hd2=>?_
       rw[hd2,h3,MO.b]at hr
       refine AL (FB h3) ?_
       conv=>whnf
       refine AL (CH hlt2) ?_
       conv=>whnf
       refine Bv (NL hc2) ?_
       conv=>whnf
       by_cases h4:c2=10
       ·rw[FH h4]at hr
        refine AL (FB h4) ?_
        conv=>whnf
        exact K (jF (zS i)) hlt2 hr hg
       ·rw[B3 h4]at hr
        refine BI (Fz h4) ?_
        conv=>whnf
        exact K (jF (zS i)) hlt2 hr hg
      ·refine BI (Fz h3) ?_
       conv=>whnf
       exact K (zS i) hlt (by rw[←hr,MO.o ln g c _ hEi hq h2 h3]) hg
  ·exact END (JS hlt) hi hr
end
section
open L04
theorem Wd{x t:Txt}{b i:Nat}(h:i+x.length≤b)(hp:pre? x (t.drop i)=true):Dg x t b i=true:=by
 unfold Dg;rw[zD h];exact hp
theorem QT{t:Txt}{b:Nat}:∀(u v:Txt) (a m:Nat),a+m=b+1→a+u.length < b→t.drop a=u++10::v→(∀c∈u,c≠10)→E7 (Dg [10] t b) a m=Int.ofNat (a+u.length)
 |[],v,a,0,hm,hb,_,_=>absurd hb (by show¬a+0 < b;lia)
 |[],v,a,m+1,hm,hb,hd,_=>by
  have:Dg [10] t b a=true:=Wd hb (by rw[hd];rfl)
  show cond (Dg [10] t b a) _ _=_
  rw[this];rfl
 |c::u,v,a,0,hm,hb,_,_=>absurd hb (by rw[zK];lia)
 |c::u,v,a,m+1,hm,hb,hd,hu=>by
  have:Dg [10] t b a=false:=by
   unfold Dg
   rw[hd]
   show cond _ (cond (Nat.beq 10 c) true false) false=false
   rw[B3 (fun e=>hu c (.head _) e.symm)]
   induction Nat.ble (a+1) b using za <;>rfl
  show cond (Dg [10] t b a) _ _=_
  rw[this]
  have hd':t.drop (a+1)=u++10::v:=by rw[←j0,hd];rfl
  have:=QT (t:=t) (b:=b) u v (a+1) m (by lia) (by rw[zK]at hb;lia) hd' (fun c h=>hu c (.tail _ h))
  rw[zK,show a+(u.length+1)=a+1+u.length by lia]
  exact this
theorem NA:∀{l:Txt},Ends l→l≠[]→∃u v,l=u++10::v∧∀c∈u,c≠10
 |[],_,h=>absurd rfl h
 |c::y,hE,_=>by
  by_cases hc:c=10
  ·exact⟨[],y,by rw[hc];rfl,fun _ h=>nomatch h⟩
  ·refine AH (NA (l:=y) (DV hE 1) (Cz hE hc)) fun u v e hu=>?_
   refine⟨c::u,v,by rw[e];rfl,fun c h=>?_⟩
   cases h with
   |head=>exact hc
   |tail _ h=>exact hu c h
theorem Sr{lv ln:Nat}{g:List Nat}:∀(u v:Txt),(∀c∈u,c≠10)→run ⟨.cm,lv,ln,g⟩ (u++v)=run ⟨.cm,lv,ln,g⟩ v
 |[],_,_=>rfl
 |c::u,v,h=>by
  show run (cond (Nat.beq c 10) _ _) (u++v)=_
  rw[B3 (h c (.head _))]
  exact Sr u v fun c h'=>h c (.tail _ h')
theorem KS{t u v:Txt}{a:Nat}(h:t.drop a=u++v)(hv:v≠[]):a+u.length+v.length=t.length:=by
 have e:=zy List.length h
 rw[jC,zd]at e
 have:0 < v.length:=List.length_pos_iff.mpr hv
 lia
theorem XV{t u v:Txt}{a:Nat}(h:t.drop a=u++10::v)(hu:∀c∈u,c≠10):H5 [10] t a t.length=Int.ofNat (a+u.length):=by
 have hl:=KS h (List.cons_ne_nil _ _)
 rw[zK]at hl
 exact QT u v a _ (by lia) (by lia) h hu
noncomputable def Cp(F:A1):Nat:=match F.md with
 | .nm e=>cond e 1 0
 | .s1 _ f=>cond (Nat.beq F.ln (f+1)) 2 3
 | .s3 _ f _=>cond (Nat.beq F.ln (f+1)) 2 3
 |_=>0
variable {C:Cfg}{X:AN→St→Prop}
noncomputable def fT(C:Cfg)(X:AN→St→Prop)(Q:Out→St→Prop)(N:Nat)(σ:St):Prop:=GQ (Kz C X F4) (Au C X F2) (Au C X F3) Q N σ
theorem Sv{d:Bool}{lv ln:Nat}{e:Bool}{g:List Nat}{y:Txt}:run ⟨.nm e,lv,ln,g⟩ (qc d::y)=run ⟨.q1 d ln,lv,ln,g⟩ y:=by induction d using za <;>rfl
theorem Zg{e:Bool}{lv ln:Nat}{g:List Nat}{y:Txt}:run ⟨.nm e,lv,ln,g⟩ (10::y)=run ⟨.nm false,lv,ln+1,cond (Nat.beq lv 0) (g++[ln+1]) g⟩ y:=rfl
theorem Zf{e:Bool}{lv ln c:Nat}{g:List Nat}{y:Txt}:run ⟨.nm e,lv,ln,g⟩ (92::c::y)=cond (Nat.beq c 10) (run ⟨.nm true,lv,ln+1,g⟩ y) (run ⟨.nm false,lv,ln,g⟩ y):=by
 show run (cond (Nat.beq c 10) _ _) y=_
 induction Nat.beq c 10 using za <;>rfl
theorem Sn{c:Nat}(h:tok c)(h1:c≠120)(h2:c≠10)(h3:c≠40)(h4:c≠41):(∃d,c=qc d)∨c=35∨c=92:=
 h.elim (fun e=>absurd e h1) fun h=>h.elim (fun e=>absurd e h2) fun h=>h.elim (fun e=>absurd e h3) fun h=>h.elim (fun e=>absurd e h4) fun h=>
  h.elim (fun e=>.inl ⟨true,e⟩) fun h=>h.elim (fun e=>.inl ⟨false,e⟩) .inr
theorem outer{t:Txt}{F:A1}{sf:List (Option LV)}{h:List Cell}{Q:Out→St→Prop}(hE:Ends t)(hT:∀c∈t,tok c)
  (HF:∀ch q f w,Q .next (PM t (Cp F) F.lv F.ln F.gd t.length ch q f w sf h)) (N:Nat):
  ∀(i:Nat) (e:Bool) (cont lv ln:Nat) (g:List Nat) (ch q f w:Option LV),i≤t.length→t.length - i≤N→run ⟨.nm e,lv,ln,g⟩ (t.drop i)=F→Gd g t i→
  cont=cond (Nat.beq i t.length) (cond e 1 0) 0→fT C X Q (N+1) (PM t cont lv ln g i ch q f w sf h):=by
 have FIN:∀{N cont lv ln g ch q f w},cont=Cp F→lv=F.lv→ln=F.ln→g=F.gd→fT C X Q (N+1) (PM t cont lv ln g t.length ch q f w sf h):=by
  intro N cont lv ln g ch q f w h1 h2 h3 h4
  rw[h1,h2,h3,h4]
  conv=>whnf
  refine BI (HX (zu _)) ?_
  conv=>whnf
  exact HF ch q f w
 have END:∀{N i:Nat} {e:Bool} {cont lv ln:Nat} {g:List Nat} {ch q f w:Option LV},t.length≤i→i≤t.length→run ⟨.nm e,lv,ln,g⟩ (t.drop i)=F→cont=cond (Nat.beq i t.length) (cond e 1 0) 0→fT C X Q (N+1) (PM t cont lv ln g i ch q f w sf h):=by
  intro N i e cont lv ln g ch q f w hi hi' hr hc
  have e1:=jJ hi' hi
  rw[Jv hi]at hr
  rw[FH e1]at hc
  rw[e1]
  exact FIN (by rw[hc,←hr];rfl) (zy A1.lv hr) (zy A1.ln hr) (zy A1.gd hr)
 induction N with
 |zero=>exact fun i e cont lv ln g ch q f w hi hN hr _ hc=>END (JN (Nat.le_zero.mp hN)) hi hr hc
 |succ N IH=>
  intro i e cont lv ln g ch q f w hi hN hr hg hcont
  by_cases hlt:i < t.length
  ·refine Aa (DU hlt) fun c hc hd=>?_
   have hEi:=DV hE i
   rw[hd]at hr hEi
   rw[B3 (j5 hlt)]at hcont
   rw[show cont=0 from hcont]
   have K:∀{j e cont lv' HK g' gg ch q f w k l},i < j→j≤t.length→run ⟨.nm e,lv',HK,g'⟩ (t.drop j)=F→Gd g' t j→cont=cond (Nat.beq j t.length) (cond e 1 0) 0→k=Int.ofNat j→l=Int.ofNat lv'→gv g'=gg→
     fT C X Q (N+1) ⟨[some (.v (.str t)),I cont,some (.v (.int l)),I HK,some (.loc 0),some (.app 0),some (.v (.int k)),I t.length,ch,q,f,w],[gg],sf,h⟩:=by
    intro j e cont lv' HK g' gg ch q f w k l hj hj' hr hg hct hk hl hgg
    rw[hk,hl,←hgg]
    exact IH j e cont lv' HK g' ch q f w hj' (Je (z4 (Nat.sub_lt_sub_left hlt hj) hN)) hr hg hct
   have c0:∀{j},0=cond (Nat.beq j t.length) (cond false 1 0) 0:=fun{j}=>by induction Nat.beq j t.length using za <;>rfl
   have hg1:=hg.mono (zP i)
   have ne:=fun h=>j5 (J3 (Cz hEi h))
   conv=>whnf
   refine AL (CH hlt) ?_
   conv=>whnf
   refine Bv (NL hc) ?_
   conv=>whnf
   by_cases h1:c=120
   ·rw[h1]at hr
    refine AL (FB h1) ?_
    conv=>whnf
    exact K (zS i) hlt hr hg1 (by rw[B3 (ne (by rw[h1];decide))];rfl) rfl rfl rfl
   ·refine BI (Fz h1) ?_
    conv=>whnf
    by_cases h2:c=10
    ·rw[h2,Zg]at hr
     refine AL (FB h2) ?_
     conv=>whnf
     induction hl:Nat.beq lv 0 using za with
     |true=>
      rw[hl]at hr
      refine AL (hl) ?_
      conv=>whnf
      refine AL (hg.len) ?_
      conv=>whnf
      exact K (zS i) hlt hr (hg.nl hlt) c0 rfl rfl (CI ..)
     |false=>
      rw[hl]at hr
      refine BI (hl) ?_
      conv=>whnf
      exact K (zS i) hlt hr hg1 c0 rfl rfl rfl
    ·refine BI (Fz h2) ?_
     conv=>whnf
     by_cases h3:c=40
     ·rw[h3]at hr
      refine AL (FB h3) ?_
      conv=>whnf
      exact K (zS i) hlt hr hg1 c0 rfl rfl rfl
     ·refine BI (Fz h3) ?_
      conv=>whnf
      by_cases h4:c=41
      ·rw[h4]at hr
       have hr:run ⟨.nm false,lv - 1,ln,g⟩ (t.drop (i+1))=F:=hr
       refine AL (FB h4) ?_
       conv=>whnf
       induction hl:Nat.beq lv 0 using za with
       |true=>
        refine BI ((by show(!Nat.beq lv 0)=false;rw[hl];rfl)) ?_
        conv=>whnf
        exact K (zS i) hlt hr hg1 c0 rfl (by rw[zw hl]) rfl
       |false=>
        refine AL ((by show(!Nat.beq lv 0)=true;rw[hl];rfl)) ?_
        conv=>whnf
        refine K (zS i) hlt hr hg1 c0 rfl ?_ rfl
        induction lv using zz with
        |zero=>exact Bool.noConfusion hl
        |succ l=>exact ZH l
      ·refine BI (Fz h4) ?_
       refine(Sn (hT c (zQ hc)) h1 h2 h3 h4).elim (fun hq=>?_) fun hr2=>?_
       ·refine hq.elim fun d hcd=>?_
        rw[hcd]at hr hEi
        show Kz C X (.bl false _) _ ((PM t 0 lv ln g (i+1) (some (.v (.str [c]))) q f w sf h))
        refine Y1 rfl (by rw[hcd];cases d;exact .inr rfl;exact .inl rfl) ?_
        have hp:=SH hlt 2
        rw[hd,hcd]at hp
        rw[hcd]
        conv=>whnf
        induction hq:gy (qc d) (qc d::t.drop (i+1))using za with
        |true=>
         have e3:=WU hq
         have e4:(qc d::t.drop (i+1)).drop 3=t.drop (i+3):=j0
         have hl3:i+3≤t.length:=by
          have hl:=zy List.length ((hcd▸hd).trans e3)
          rw[jC,zK,zK,zK]at hl
          exact Jx hi (by rw[hl];exact JL _ _)
         have hr:run ⟨.s3 d ln 0,lv,ln,g⟩ (t.drop (i+3))=F:=by
          rw[←hr,Sv,←e4]
          show _=run _ ((qc d::t.drop (i+1)).drop 1)
          rw[e3];induction d using za <;>rfl
         refine AL ((zy (Bo · [qc d,qc d,qc d]) hp).trans hq) ?_
         conv=>whnf
         refine⟨_,inner (mI (d:=d) (f:=ln) (lv:=lv)) hE (fun j HK g' ch h1 h2 h3 h4=>?_) (fun HK g' ch h1=>?_) t.length (i+3) ln g (some (.v (.str [qc d]))) (zu _) hl3 (j9 _ _) hr (hg.mono (zB _ _))⟩
         ·exact K (z4 (Jt (jO 2)) h1) h2 h3 h4 c0 rfl rfl rfl
         ·exact FIN (by rw[h1];rfl) (by rw[h1]) (by rw[h1]) (by rw[h1])
        |false=>
         have hr:run ⟨.s1 d ln,lv,ln,g⟩ (t.drop (i+1))=F:=by rw[←hr,Sv,←ZU hEi hq]
         refine BI ((zy (Bo · [qc d,qc d,qc d]) hp).trans hq) ?_
         conv=>whnf
         refine⟨_,inner (mH (d:=d) (f:=ln) (lv:=lv)) hE (fun j HK g' ch h1 h2 h3 h4=>?_) (fun HK g' ch h1=>?_) t.length (i+1) ln g (some (.v (.str [qc d]))) (zu _) hlt (j9 _ _) hr hg1⟩
         ·exact K h1 h2 h3 h4 c0 rfl rfl rfl
         ·exact FIN (by rw[h1];rfl) (by rw[h1]) (by rw[h1]) (by rw[h1])
       ·have n34:c≠34:=hr2.elim (fun e=>e▸(by decide)) (fun e=>e▸(by decide))
        have n39:c≠39:=hr2.elim (fun e=>e▸(by decide)) (fun e=>e▸(by decide))
        conv=>whnf
        refine BI (Fz n34) ?_
        conv=>whnf
        refine BI (Fz n39) ?_
        conv=>whnf
        refine hr2.elim (fun h5=>?_) fun h5=>?_
        ·refine AH (NA (DV hE (i+1)) (Cz hEi h2)) fun u v hu h10=>?_
         have hl:i+1+u.length≤t.length:=zp (zB _ _) (Jn (KS hu (List.cons_ne_nil _ _)))
         rw[h5]at hr
         have hr:run ⟨.nm false,lv,ln,g⟩ (t.drop (i+1+u.length))=F:=by
          rw[←hr,←j0,hu,Jh]
          exact(Sr u (10::v) h10).symm
         have hf:=XV hu h10
         refine AL (FB h5) ?_
         conv=>whnf
         refine AL ((by rw[hf];rfl)) ?_
         conv=>whnf
         exact K (z4 (zS i) (zB _ _)) hl hr (hg.mono (zp (zP i) (zB _ _))) c0 hf rfl rfl
        ·have hlt2:=J3 (Cz hEi h2)
         refine Aa (DU hlt2) fun c2 hc2 hd2=>?_
         rw[hd2,h5,Zf]at hr
         have hi2:i < i+1+1:=jF (zS i)
         have hg2:=hg.mono (Jm hi2)
         refine BI (Fz (by rw[h5];decide)) ?_
         conv=>whnf
         refine AL (FB h5) ?_
         conv=>whnf
         refine AL (CH hlt2) ?_
         conv=>whnf
         refine Bv (NL hc2) ?_
         conv=>whnf
         by_cases h6:c2=10
         ·rw[FH h6]at hr
          refine AL (FB h6) ?_
          conv=>whnf
          induction h7:Nat.beq (i+1+1) t.length using za with
          |true=>
           refine AL (h7) ?_
           conv=>whnf
           exact K hi2 hlt2 hr hg2 (by rw[h7];rfl) rfl rfl rfl
          |false=>
           refine BI (h7) ?_
           conv=>whnf
           exact K hi2 hlt2 hr hg2 (by rw[h7];rfl) rfl rfl rfl
         ·rw[B3 h6]at hr
          refine BI (Fz h6) ?_
          conv=>whnf
          exact K hi2 hlt2 hr hg2 c0 rfl rfl rfl
  ·exact END (JS hlt) hi hr hcont
end
section
open L04
noncomputable def GF:A1:=⟨.nm false,0,0,[0]⟩
noncomputable def fin(t:Txt):A1:=run GF (t.map CP)
noncomputable def B8(F:A1):Nat:=match F.md with
 | .nm e=>cond (Nat.beq F.lv 0) (cond e 1 0) 4
 | .s1 _ f=>cond (Nat.beq F.ln (f+1)) 2 3
 | .s3 _ f _=>cond (Nat.beq F.ln (f+1)) 2 3
 |_=>5
noncomputable def fQ(F:A1):List Nat:=cond (Nat.beq (B8 F) 0) F.gd (F.gd++[F.ln])
structure ak(F:A1):Prop where
 raw:(Cp F=B8 F∧(B8 F=2∨B8 F=3∨F.lv=0))∨(B8 F=4∧F.lv≠0∧Cp F≠2∧Cp F≠3)
 gd:∃g k,F.gd=g++[k]∧((B8 F=0∧k=F.ln)∨(B8 F≠0∧k < F.ln))
noncomputable def Ou(a:A1):Prop:=∃g k,a.gd=g++[k]∧k≤a.ln
theorem Ym{a:A1}{m:Md}(h:Ou a):Ou (a.nl m):=by
 refine AH h fun g k e hk=>?_
 unfold A1.nl Ou
 induction Nat.beq a.lv 0 using za with
 |true=>exact⟨a.gd,a.ln+1,rfl,zu _⟩
 |false=>exact⟨g,k,e,z7 hk⟩
theorem Yl{a:A1}{m:Md}(h:Ou a):Ou (a.HK m):=by
 refine AH h fun g k e hk=>?_
 exact⟨g,k,e,z7 hk⟩
theorem Uz{a:A1}(h:Ou a)(c:Nat):Ou (bit a c):=Ql a c (fun _ _=>h) (fun _=>Ym h) fun _=>Yl h
theorem NV:∀{t:Txt} {a:A1},Ou a→Ou (run a t)
 |[],_,h=>h
 |c::y,_,h=>NV (t:=y) (Uz h c)
theorem KN{a:A1}(h:Ou a):ak (a.nl (.nm false)):=by
 refine AH h fun g k e hk=>?_
 obtain⟨m,lv,ln,gd⟩:=a
 induction lv using zz with
 |zero=>exact⟨.inl ⟨rfl,.inr (.inr rfl)⟩,gd,ln+1,rfl,.inl ⟨rfl,rfl⟩⟩
 |succ l=>exact⟨.inr ⟨rfl,jL _,(show(0:Nat)≠2 by decide),(show(0:Nat)≠3 by decide)⟩,g,k,e,.inr ⟨(show(4:Nat)≠0 by decide),Jd hk⟩⟩
theorem aE{a:A1}(h:Ou a):ak (a.HK (.nm true)):=by
 refine AH h fun g k e hk=>?_
 obtain⟨m,lv,ln,gd⟩:=a
 induction lv using zz with
 |zero=>exact⟨.inl ⟨rfl,.inr (.inr rfl)⟩,g,k,e,.inr ⟨(show(1:Nat)≠0 by decide),Jd hk⟩⟩
 |succ l=>exact⟨.inr ⟨rfl,jL _,(show(1:Nat)≠2 by decide),(show(1:Nat)≠3 by decide)⟩,g,k,e,.inr ⟨(show(4:Nat)≠0 by decide),Jd hk⟩⟩
theorem W9{a:A1}(h:Ou a){m:Md}(hm:(∃d f,m=.s1 d f)∨(∃d f,m=.s3 d f 0)):ak (a.HK m):=by
 refine AH h fun g k e hk=>?_
 have e2:B8 (a.HK m)=Cp (a.HK m)∧(Cp (a.HK m)=2∨Cp (a.HK m)=3):=by
  obtain⟨d,f,rfl⟩ |⟨d,f,rfl⟩:=hm
  ·refine⟨rfl,?_⟩
   show(cond (Nat.beq (a.ln+1) (f+1)) 2 3:Nat)=2∨(cond (Nat.beq (a.ln+1) (f+1)) 2 3:Nat)=3
   induction Nat.beq (a.ln+1) (f+1)using za <;>simp
  ·refine⟨rfl,?_⟩
   show(cond (Nat.beq (a.ln+1) (f+1)) 2 3:Nat)=2∨(cond (Nat.beq (a.ln+1) (f+1)) 2 3:Nat)=3
   induction Nat.beq (a.ln+1) (f+1)using za <;>simp
 refine⟨.inl ⟨e2.1.symm,?_⟩,g,k,e,.inr ⟨?_,Jd hk⟩⟩
 ·rw[e2.1];lia
 ·rw[e2.1];lia
theorem W7{a:A1}(h:Ou a):ak (bit a 10):=by
 obtain⟨m,lv,ln,gd⟩:=a
 induction m using Md.casesOn with
 |nm e=>exact KN h
 |esc=>exact aE h
 |cm=>exact KN h
 |q1 d f=>induction d using za <;>exact KN h
 |q2 d f=>induction d using za <;>exact KN h
 |s1 d f=>induction d using za <;>exact KN h
 |e1 d f=>exact W9 h (.inl ⟨d,f,rfl⟩)
 |s3 d f k=>induction d using za <;>exact W9 h (.inr ⟨_,f,rfl⟩)
 |e3 d f=>exact W9 h (.inr ⟨d,f,rfl⟩)
theorem W8{t:Txt}(h:Ends t):ak (fin t):=by
 induction h using jY with
 |inl h=>subst h;exact⟨.inl ⟨rfl,.inr (.inr rfl)⟩,[],0,rfl,.inl ⟨rfl,rfl⟩⟩
 |inr h=>
  refine zg h ?_;clear h;intro u hq1;subst hq1
  unfold fin
  rw[jh,Kl]
  exact W7 (NV ⟨[],0,rfl,zu _⟩)
section
variable {rx:Rx}
theorem Ps{t:Txt}(h:Bq 128 t=true):Cb rx .squeeze (.str t)=some (.str (t.map CP)):=by
 show cond (Bq 128 t) _ _=_
 rw[h];rfl
theorem G8{t:Txt}{o:Nat}{old new:Txt}(h:t.length≤1000000)(hn:new.length≤old.length+1):Eu rx .replace (.str t) (.str (o::old)) (.str new)=some (.str (AF (o::old) new 0 t)):=by
 show cond (Nat.ble new.length (old.length+1) && Nat.ble t.length 1000000) _ _=_
 rw[zD h,zD hn];rfl
end
theorem Tt(g:List Nat)(k:Nat):Mi (gv (g++[k])) (Int.negSucc 0)=some (.int (.ofNat k)):=by
 rw[CI]
 show cond (Nat.blt 0 (gv g++[Val.int (.ofNat k)]).length) ((gv g++[Val.int (.ofNat k)])[(gv g++[Val.int (.ofNat k)]).length - (0+1)]?) none=_
 rw[zd]
 show(gv g++[Val.int (.ofNat k)])[(gv g).length]? =_
 rw[zM (zu _),jl];rfl
noncomputable abbrev fld(iw tw:Nat)(t:Txt)(l:Nat)(gl co ss se lc lo br:Option Val):List (Option Val):=
 [some (.int (.ofNat iw)),some (.int (.ofNat tw)),some (.str t),some (.int (.ofNat l)),gl,co,ss,se,lc,lo,br]
noncomputable def PQ(rx:Rx):Kx:=⟨rx,fns,0,11⟩
theorem LD(x:Option Val)(r:List (Option Val)):B1 (x::r)=x.map LV.v::B1 r:=by induction x using zh <;>rfl
theorem DG(o:List (List Val)):∀fs:List (Option Val),fz o (B1 fs)=some fs
 |[]=>rfl
 |none::r=>by
  show(match fz o (B1 r)with |some l=>some (none::l) |none=>none)=_
  rw[DG o r]
 |some x::r=>by
  show(match look o (.v x),fz o (B1 r)with |some y,some l=>some (some y::l) |_,_=>none)=_
  rw[DG o r];rfl
theorem EN{o:List (List Val)}{lv:LV}{y:Val}{r:List (Option LV)}{l:List (Option Val)}(h1:look o lv=some y)(h2:fz o r=some l):fz o (some lv::r)=some (some y::l):=by
 show(match look o lv,fz o r with |some y,some l=>some (some y::l) |_,_=>none)=_
 rw[h1,h2]
theorem bh{iw tw:Nat}{t:Txt}{l l':Nat}{gl co ss se lc lo br:Option Val}{g:List Val}{c:Nat}:
  fz [g] (CE (CE (CE (B1 (fld iw tw t l gl co ss se lc lo br)) 3 (.v (.int (.ofNat l')))) 4 (.loc 0)) 5 (.v (.int (.ofNat c))))=some (fld iw tw t l' (some (.seq false g)) (some (.int (.ofNat c))) ss se lc lo br):=by
 show fz [g] (some (.v (.int (.ofNat iw)))::some (.v (.int (.ofNat tw)))::some (.v (.str t))::some (.v (.int (.ofNat l')))::CE (CE (B1 [gl,co,ss,se,lc,lo,br]) 0 (.loc 0)) 1 (.v (.int (.ofNat c))))=_
 rw[LD gl,LD co]
 exact EN rfl (EN rfl (EN rfl (EN rfl (EN rfl (EN rfl (DG _ _))))))
noncomputable def LS:Ss:=.cons (.sasg 5 (.loc 1)) (.cons (.asrt (.p2 .eq (.p2 .eq (.loc 1) (.lit (.int (.ofNat 0)))) (.p2 .eq (.p2 .idx (.loc 4) (.p1 .neg (.lit (.int (.ofNat 1))))) (.loc 3)))) (.cons (.if_ (.p2 .ne (.p2 .idx (.loc 4) (.p1 .neg (.lit (.int (.ofNat 1))))) (.loc 3)) (.cons (.ex (.push 5 (.loc 3))) .nil) (.nil)) .nil))
theorem EQ{rx:Rx}{gd g:List Nat}{k:Nat}(h:gd=g++[k]):Bu rx .idx (.seq false (gv gd)) (.int (Int.negSucc 0))=some (.int (.ofNat k)):=by
 subst h;exact Tt g k
theorem MZ{C:Cfg}{X:AN→St→Prop}{iw tw:Nat}{t s:Txt}{gl co ss se lc lo br:Option Val}{h:List Cell}{K:Val→List (Option Val)→List Cell→Prop}
  {lv ln i c k:Nat} {gd g:List Nat} {ch q f w:Option LV} (hg:gd=g++[k]) (hc:(c=0∧k=ln)∨(c≠0∧k < ln)) (hl:gd.length < AJ)
  (hK:K .none (fld iw tw t 1 (some (.seq false (gv (cond (Nat.beq c 0) gd (gd++[ln]))))) (some (.int (.ofNat c))) ss se lc lo br) h):
  Au C X LS (Ef K) (PM s c lv ln gd i ch q f w (CE (CE (B1 (fld iw tw t 0 gl co ss se lc lo br)) 3 (.v (.int (.ofNat 1)))) 4 (.loc 0)) h):=by
 obtain⟨rfl,rfl⟩ |⟨h1,h2⟩:=hc
 ·conv=>whnf
  refine Bv (EQ hg) ?_
  conv=>whnf
  refine AL (FH rfl) ?_
  conv=>whnf
  refine Bv (EQ hg) ?_
  conv=>whnf
  refine BI ((by show(!Nat.beq k k)=false;rw[FH rfl];rfl)) ?_
  conv=>whnf
  refine Bv (bh (l':=1) (c:=0)) ?_
  conv=>whnf
  exact hK
 ·rw[B3 h1]at hK
  have hK:K .none (fld iw tw t 1 (some (.seq false (gv (gd++[ln])))) (some (.int (.ofNat c))) ss se lc lo br) h:=hK
  rw[CI]at hK
  conv=>whnf
  refine Bv (EQ hg) ?_
  conv=>whnf
  refine AL ((by show cond (Nat.beq c 0) (Nat.beq k ln) (!(Nat.beq k ln))=true;rw[B3 h1,B3 (by lia)];rfl)) ?_
  conv=>whnf
  refine Bv (EQ hg) ?_
  conv=>whnf
  refine AL ((by show(!Nat.beq k ln)=true;rw[B3 (by lia)];rfl)) ?_
  conv=>whnf
  refine AL (CH (by rw[BH];exact hl)) ?_
  conv=>whnf
  refine Bv (bh (l':=1) (c:=c)) ?_
  conv=>whnf
  exact hK
theorem X3(a:A1)(c:Nat):(bit a c).gd.length≤a.gd.length+1:=Ql (P:=fun b=>b.gd.length≤a.gd.length+1) a c (fun _ _=>zP _) (fun _=>by
  unfold A1.nl
  induction Nat.beq a.lv 0 using za with
  |true=>exact Jn zd
  |false=>exact zP _) fun _=>zP _
theorem Mt:∀(t:Txt) (a:A1),(run a t).gd.length≤a.gd.length+t.length
 |[],_=>zu _
 |c::y,a=>by
  have h1:=Mt y (bit a c)
  have h2:=X3 a c
  rw[zK]
  show(run (bit a c) y).gd.length≤_
  lia
theorem M0{rx:Rx}{d:Nat}{iw tw:Nat}{t:Txt}{gl co ss se lc lo br:Option Val}{h:List Cell}{K:Val→List (Option Val)→List Cell→Prop}{X:AN→List (Option Val)→List Cell→Prop}
  (hE:Ends t) (h8:Bq 128 t=true) (hl:t.length≤100000)
  (hK:K .none (fld iw tw t 1 (some (.seq false (gv (fQ (fin t))))) (some (.int (.ofNat (B8 (fin t))))) ss se lc lo br) h):A8 (PQ rx) (d+1) 2 (fld iw tw t 0 gl co ss se lc lo br) [] h K X:=by
 have l0:(t.map CP).length≤1000000:=by rw[jb];lia
 have l1:=zp (Bh (o:=120) (old:=[120,120,120,120,120,120,120]) (new:=[120]) (by decide) (t.map CP) 0) l0
 have l2:=zp (Bh (o:=120) (old:=[120,120,120]) (new:=[120]) (by decide) _ 0) l1
 have l3:=zp (Bh (o:=120) (old:=[120]) (new:=[120]) (by decide) _ 0) l2
 have l4:=zp (Bh (o:=120) (old:=[120]) (new:=[120]) (by decide) _ 0) l3
 have a1:=W8 hE
 have hr:run GF ((sq t).drop 0)=fin t:=Zh GF t
 have hs:=Yh t
 refine AH a1.gd fun g k hg hc=>?_
 have hgl:(fin t).gd.length < AJ:=by
  have:=Mt (t.map CP) GF
  rw[jb]at this
  show(run GF (t.map CP)).gd.length < 16777216
  have e:GF.gd.length=1:=rfl
  lia
 have fin':=fun ch q f w=>MZ (C:=⟨rx,A8 (PQ rx) d,0,11⟩) (X:=Dv X) (s:=sq t) (i:=(sq t).length) (lv:=(fin t).lv) (gl:=gl) (co:=co) (ch:=ch) (q:=q) (f:=f) (w:=w) hg hc hgl hK
 conv=>whnf
 refine Bv (Ps h8) ?_
 conv=>whnf
 refine Bv (G8 l0 (by decide)) ?_
 conv=>whnf
 refine Bv (G8 l1 (by decide)) ?_
 conv=>whnf
 refine Bv (G8 l2 (by decide)) ?_
 conv=>whnf
 refine Bv (G8 l3 (by decide)) ?_
 conv=>whnf
 refine Bv (G8 l4 (by decide)) ?_
 conv=>whnf
 refine⟨_,outer (t:=sq t) (F:=fin t) (TK hE) (ZS t) (fun ch q f w=>?_) (sq t).length 0 false 0 0 0 [0] none none none none (zY _) (zu _) hr (by show 1+_ < 16777216;lia) (by induction Nat.beq 0 (sq t).length using za <;>rfl)⟩
 have fin'':=fin' ch q f w
 have hraw:=a1.raw
 clear a1 hc hg hK fin'
 generalize B8 (fin t)=c at*
 generalize Cp (fin t)=r at*
 generalize(fin t).lv=lv at*
 have nt:∀{a b:Nat},a≠b→(!(Nat.beq a b))=true:=fun h=>by rw[B3 h];rfl
 obtain⟨rfl,h2 |h3 |h0⟩ |⟨rfl,hlv,n2,n3⟩:=hraw
 ·subst h2
  conv=>whnf
  exact fin''
 ·subst h3
  conv=>whnf
  exact fin''
 ·subst h0
  by_cases n2:r=2
  ·subst n2
   conv=>whnf
   exact fin''
  ·by_cases n3:r=3
   ·subst n3
    conv=>whnf
    exact fin''
   ·conv=>whnf
    refine AL (nt n2) ?_
    conv=>whnf
    refine AL (nt n3) ?_
    conv=>whnf
    exact fin''
 ·induction lv using zz with
  |zero=>exact absurd rfl hlv
  |succ l=>
   conv=>whnf
   refine AL (nt n2) ?_
   conv=>whnf
   refine AL (nt n3) ?_
   conv=>whnf
   exact fin''
end
section
open L04
theorem GJ{p:Nat→Bool}:∀(n k:Nat) (r:Int),(∀i,k≤i→i < k+n→p i=false)→B4 p k n r=r
 |0,_,_,_=>rfl
 |n+1,k,r,h=>by
  show B4 p (k+1) n (cond (p k) _ r)=r
  rw[h k (zu _) (by lia)]
  exact GJ n (k+1) r fun i h1 h2=>h i (by lia) (by lia)
theorem C4{p:Nat→Bool}:∀(n m k:Nat) (r:Int),B4 p k (n+m) r=B4 p (k+n) m (B4 p k n r)
 |0,m,k,r=>by rw[jr];rfl
 |n+1,m,k,r=>by
  rw[show n+1+m=(n+m)+1 by lia,show k+(n+1)=(k+1)+n by lia]
  exact C4 n m (k+1) _
theorem Nm{t u:Txt}{a i b:Nat}(hi:a≤i)(hi2:i < a+u.length)(h:t.drop a=u++t.drop (a+u.length))(hu:∀c∈u,c≠10):Dg [10] t b i=false:=by
 have e:t.drop i=u.drop (i - a)++t.drop (a+u.length):=by
  have:t.drop i=(t.drop a).drop (i - a):=by rw[j0];congr 1;lia
  rw[this,h,jR (by lia)]
 have hlt:i - a < u.length:=by lia
 rw[j3 hlt]at e
 unfold Dg
 rw[e]
 show cond _ (cond (Nat.beq 10 _) true false) false=false
 rw[B3 (fun e=>hu _ (List.getElem_mem hlt) e.symm)]
 induction Nat.ble (i+1) b using za <;>rfl
theorem MU{t A u v:Txt}(hA:Ends A)(ht:t=A++(u++v))(hu:∀c∈u,c≠10):A4 [10] t 0 (A.length+u.length)+Int.ofNat 1=Int.ofNat A.length:=by
 have hd:t.drop A.length=u++t.drop (A.length+u.length):=by
  rw[←j0,ht,Jh,Jh]
 have hn:∀r,B4 (Dg [10] t (A.length+u.length)) A.length (u.length+1) r=r:=fun r=>by
  refine GJ _ _ _ fun i h1 h2=>?_
  by_cases h3:i < A.length+u.length
  ·exact Nm h1 h3 hd hu
  ·unfold Dg
   rw[show Nat.ble (i+[10].length) (A.length+u.length)=false from by
    induction e:Nat.ble (i+[10].length) (A.length+u.length)using za with
    |false=>rfl
    |true=>exact absurd (zC e) (by show¬i+1≤_;lia)]
   rfl
 show B4 (Dg [10] t (A.length+u.length)) 0 (A.length+u.length+1 - 0) (-1)+_=_
 rw[show A.length+u.length+1 - 0=A.length+(u.length+1) by lia,C4,jr,hn]
 induction hA using jY with
 |inl h=>subst h;rfl
 |inr h=>
  refine zg h ?_;clear h;intro B hq1;subst hq1
  have hat:Dg [10] t ((B++[10]).length+u.length) B.length=true:=by
   refine Wd (by rw[zd];show B.length+1≤_;exact zB _ _) ?_
   rw[ht,zl,Jh];rfl
  have hl:List.length (B++[10])=B.length+1:=zd
  rw[hl]at hat ⊢
  rw[C4,jr]
  show cond (Dg [10] t (B.length+1+u.length) B.length) _ _+_=_
  rw[hat];rfl
inductive Ln:Nat→Txt→Prop
 |nil:Ln 0 []
 |snoc {m:Nat} {c u:Txt}:Ln m c→(∀x∈u,x≠10)→Ln (m+1) (c++(u++[10]))
end
end Ag.Pu
namespace Ag.Pq
section
open Rxm Pu
noncomputable def colon:Nat→Bool
 |0=>true
 |1=>false
 |2=>true
 |3=>true
 |4=>false
 |_=>false
theorem FN{p q:Nat→Bool}:∀(n k:Nat) (r:Int),(∀i,k≤i→i < k+n→p i=q i)→B4 p k n r=B4 q k n r
 |0,_,_,_=>rfl
 |n+1,k,r,h=>by
  show B4 p (k+1) n (cond (p k) (.ofNat k) r)=B4 q (k+1) n (cond (q k) (.ofNat k) r)
  rw[h k (zu _) (by lia)]
  exact FN n (k+1) _ fun i h1 h2=>h i (by lia) (by lia)
theorem IU{x t:Txt}{b i:Nat}(h:i+x.length≤b):Dg x t b i=pre? x (t.drop i):=by
 show cond (Nat.ble (i+x.length) b) _ _=_
 rw[zD h];rfl
theorem IV{x t:Txt}{b i:Nat}(h:b < i+x.length):Dg x t b i=false:=by
 show cond (Nat.ble (i+x.length) b) _ _=_
 rw[show Nat.ble (i+x.length) b=false from Bool.eq_false_iff.mpr fun e=>Nat.not_le.mpr h (zC e)];rfl
theorem Vc(r:Nat):∀y:Txt,∀j,j+2≤(Ae r).length→pre? [58,10] ((Ae r).drop j++y)=(colon r && Nat.beq (j+2) (Ae r).length):=by
 have k:∀(l y:Txt) (j:Nat),j+2≤l.length→pre? [58,10] (l.drop j++y)=pre? [58,10] (l.drop j):=fun l y j h=>by
  obtain⟨a,b,s,e⟩:∃a b s,l.drop j=a::b::s:=by
   have hl:2≤(l.drop j).length:=by rw[jC];lia
   generalize l.drop j=d at hl
   match d,hl with
   |a::b::s,_=>exact⟨a,b,s,rfl⟩
  rw[e];rfl
 have c:∀(l:Txt) (b:Bool),((List.range (l.length - 1)).all fun j=>cond (pre? [58,10] (l.drop j)) (b && Nat.beq (j+2) l.length) (!(b && Nat.beq (j+2) l.length)))=true→∀y j,j+2≤l.length→pre? [58,10] (l.drop j++y)=(b && Nat.beq (j+2) l.length):=fun l b h y j hj=>by
  rw[k l y j hj]
  have q:=zT.mp h j (List.mem_range.mpr (by lia))
  cases hp:pre? [58,10] (l.drop j)with
  |true=>rw[hp]at q;exact q.symm
  |false=>rw[hp]at q;exact((JH _).mp q).symm
 exact LJ (fun r=>∀y:Txt,∀j,j+2≤(Ae r).length→pre? [58,10] ((Ae r).drop j++y)=(colon r && Nat.beq (j+2) (Ae r).length)) (c _ true (by decide+kernel)) (c _ false (by decide+kernel)) (c _ true (by decide+kernel)) (c _ true (by decide+kernel)) (c _ false (by decide+kernel)) (fun _=>c [39,39,39,10] false (by decide+kernel)) r
theorem Qy{A y:Txt}{r j:Nat}(hj:j≤(Ae r).length):(A++(Ae r++y)).drop (A.length+j)=(Ae r).drop j++y:=by
 rw[←j0,Jh,jR hj]
theorem Sp{A y:Txt}{r:Nat}(hA:Nl A):A4 [58,10] (A++(Ae r++y)) 0 (A.length+(Ae r).length)=cond (colon r) (.ofNat (A.length+(Ae r).length - 2)) (A4 [58,10] (A++(Ae r++y)) 0 A.length):=by
 have hr:=Bt r
 have x2:([58,10]:Txt).length=2:=rfl
 obtain⟨m,hm⟩:∃m,(Ae r).length=m+2:=⟨(Ae r).length - 2,by lia⟩
 have hin:∀j,j+2≤(Ae r).length→Dg [58,10] (A++(Ae r++y)) (A.length+(Ae r).length) (A.length+j)=(colon r && Nat.beq (j+2) (Ae r).length):=fun j hj=>by
  rw[IU (by rw[x2];lia),Qy (by lia),Vc r y j hj]
 have hinner:B4 (Dg [58,10] (A++(Ae r++y)) (A.length+(Ae r).length)) 0 (A.length+1) (-1)=A4 [58,10] (A++(Ae r++y)) 0 A.length:=by
  refine FN (A.length+1) 0 _ fun i _ hi=>?_
  by_cases h:i+2≤A.length
  ·rw[IU (by rw[x2];lia),IU (by rw[x2];exact h)]
  ·rw[IV (b:=A.length) (by rw[x2];lia)]
   by_cases h2:i=A.length
   ·have e:=hin 0 (by lia)
    rw[JK]at e
    rw[h2,e,show Nat.beq (0+2) (Ae r).length=false from Bool.eq_false_iff.mpr fun e=>by have:=zw e;lia,Bool.and_false]
   ·rw[IU (by rw[x2];lia)]
    obtain rfl |⟨u,rfl⟩:=hA
    ·exact absurd hi (by show¬i < 0+(0+1);have:i≠0:=h2;lia)
    ·have hl:(u++[10]).length=u.length+1:=zd
     have hu:i=u.length:=by lia
     rw[hu,zl,Jh];rfl
 show B4 (Dg [58,10] (A++(Ae r++y)) (A.length+(Ae r).length)) 0 (A.length+(Ae r).length+1 - 0) (-1)=_
 rw[show A.length+(Ae r).length+1 - 0=(A.length+1)+((m - 1)+3) by lia,C4,C4,hinner,GJ (m - 1) _ _ fun i h1 h2=>?_]
 ·have e1:0+(A.length+1)+(m - 1)=A.length+m:=by lia
  rw[e1]
  have g1:Dg [58,10] (A++(Ae r++y)) (A.length+(Ae r).length) (A.length+m)=colon r:=by
   rw[hin m (by lia),hm,jA,Bool.and_true]
  have g2:Dg [58,10] (A++(Ae r++y)) (A.length+(Ae r).length) (A.length+m+1)=false:=IV (by rw[x2];lia)
  have g3:Dg [58,10] (A++(Ae r++y)) (A.length+(Ae r).length) (A.length+m+1+1)=false:=IV (by rw[x2];lia)
  show cond (Dg _ _ _ (A.length+m+1+1)) (Int.ofNat _) (cond (Dg _ _ _ (A.length+m+1)) (Int.ofNat _) (cond (Dg _ _ _ (A.length+m)) (Int.ofNat (A.length+m)) _))=_
  rw[g1,g2,g3,hm]
  rfl
 ·obtain⟨j,rfl⟩:=Nat.exists_eq_add_of_le (show A.length≤i by lia)
  rw[hin j (by lia),show Nat.beq (j+2) (Ae r).length=false from Bool.eq_false_iff.mpr fun e=>by have:=zw e;lia,Bool.and_false]
end
section
open Rxm Pu
theorem WM{P:List Nat→Prop}(nil:P [])(snoc:∀rs r,P rs→P (rs++[r]))(rs:List Nat):P rs:=by
 have k:∀l:List Nat,P l.reverse:=fun l=>by
  induction l with
  |nil=>exact nil
  |cons x l ih=>rw[List.reverse_cons];exact snoc _ _ ih
 have:=k rs.reverse
 rwa[List.reverse_reverse]at this
theorem Bd:∀a b:List Nat,flat (a++b)=flat a++flat b
 |[],_=>rfl
 |r::a,b=>by
  show Ae r++flat (a++b)=(Ae r++flat a)++flat b
  rw[Bd a b,zl]
theorem EM:∀rs:List Nat,Nl (flat rs):=fun rs=>by
 induction rs using WM with
 |nil=>exact .inl rfl
 |snoc rs r ih=>
  rw[Bd]
  show Nl (flat rs++(Ae r++[]))
  rw[zE]
  exact .row r
theorem Ob:∀(rs:List Nat) {A B:Txt},Nl A→(∀r∈rs,colon r=false)→A4 [58,10] (A++(flat rs++B)) 0 (A.length+(flat rs).length)=A4 [58,10] (A++(flat rs++B)) 0 A.length:=fun rs=>by
 induction rs using WM with
 |nil=>exact fun _ _=>rfl
 |snoc rs r ih=>
  intro A B hA h
  have hc:=h r (zi _ (.head _))
  have e1:flat (rs++[r])=flat rs++Ae r:=by rw[Bd];show flat rs++(Ae r++[])=_;rw[zE]
  have hN:Nl (A++flat rs):=by
   cases rs with
   |nil=>show Nl (A++[]);rw[zE];exact hA
   |cons x xs=>
    obtain e |⟨u,e⟩:=EM (x::xs)
    ·rw[e,zE];exact hA
    ·exact .inr ⟨A++u,by rw[e,zl]⟩
  have k:=Sp (A:=A++flat rs) (y:=B) (r:=r) hN
  have k2:=ih (A:=A) (B:=Ae r++B) hA fun x hx=>h x (zk _ hx)
  have ta:A++(flat (rs++[r])++B)=(A++flat rs)++(Ae r++B):=by rw[e1];simp only[zl]
  have tb:A++(flat rs++(Ae r++B))=(A++flat rs)++(Ae r++B):=by simp only[zl]
  rw[hc,jE]at k
  rw[tb]at k2
  rw[ta,e1,zd,←zO,←zd,k,zd,k2]
theorem eD{rs:List Nat}{B:Txt}(h:∀r∈rs,colon r=false):A4 [58,10] (flat rs++B) 0 (flat rs).length=Int.negSucc 0:=by
 have k:=Ob rs (A:=[]) (B:=B) (.inl rfl) h
 rw[show([]:Txt).length+(flat rs).length=(flat rs).length from jr _]at k
 exact k
theorem Zd{rs rs2:List Nat}{r:Nat}{B:Txt}(hr:colon r=true)(h:∀x∈rs2,colon x=false):
  A4 [58,10] (flat (rs++r::rs2)++B) 0 (flat (rs++r::rs2)).length=.ofNat ((flat rs).length+(Ae r).length - 2):=by
 have e1:flat (rs++r::rs2)=(flat rs++Ae r)++flat rs2:=by rw[Bd];show flat rs++(Ae r++flat rs2)=_;rw[zl]
 have k:=Ob rs2 (A:=flat rs++Ae r) (B:=B) (.row r) h
 have k2:=Sp (A:=flat rs) (y:=flat rs2++B) (r:=r) (EM rs)
 rw[hr,j4]at k2
 rw[e1,zd,zl,k,zl,zd,k2]
theorem Yy{rs rs2:List Nat}{r:Nat}{B:Txt}(hr:colon r=true):
  A4 [10] (flat (rs++r::rs2)++B) 0 ((flat rs).length+(Ae r).length - 2)+Int.ofNat 1=.ofNat (flat rs).length:=by
 obtain⟨u,e,hu⟩:=MV r
 have hl:=Bt r
 have hlu:(Ae r).length=u.length+1:=by rw[e,zd];rfl
 have e1:flat (rs++r::rs2)++B=flat rs++(u.take (u.length - 1)++(u.drop (u.length - 1)++([10]++(flat rs2++B)))):=by
  rw[Bd]
  show(flat rs++(Ae r++flat rs2))++B=_
  rw[e,←zl (u.take _),List.take_append_drop]
  simp only[zl]
 have hA:Ends (flat rs):=by
  obtain h |⟨w,h⟩:=EM rs
  ·exact .inl h
  ·exact .inr ⟨w,h⟩
 have k:=MU hA e1 fun c hc=>fun e10=>by
  have:=zT.mp hu c (List.mem_of_mem_take hc)
  rw[e10]at this;exact Bool.noConfusion this
 rw[ji,jz (j9 _ _)]at k
 rw[show(flat rs).length+(Ae r).length - 2=(flat rs).length+(u.length - 1) by lia]
 exact k
theorem cut:∀rs:List Nat,(∀r∈rs,colon r=false)∨∃a r b,rs=a++r::b∧colon r=true∧∀x∈b,colon x=false
 |[]=>.inl fun _ h=>nomatch h
 |r::rs=>by
  obtain h |⟨a,x,b,e,h1,h2⟩:=cut rs
  ·cases hr:colon r with
   |true=>exact .inr ⟨[],r,rs,rfl,hr,h⟩
   |false=>exact .inl fun x hx=>(zI.mp hx).elim (fun e=>e▸hr) (h x)
  ·exact .inr ⟨r::a,x,b,by rw[e];rfl,h1,h2⟩
noncomputable def words:List Nat→Nat→List Nat
 |[],_=>[]
 |r::rs,p=>cond (Ay r).isSome (p::words rs (p+(Ae r).length)) (words rs (p+(Ae r).length))
theorem DF:∀(rs:List Nat) (p:Nat),(first rs p).map Prod.fst=(words rs p).head?
 |[],_=>rfl
 |r::rs,p=>by
  show Option.map _ (match Ay r with |some e=>some (p,p+e) |none=>first rs (p+(Ae r).length))=(cond (Ay r).isSome (p::words rs (p+(Ae r).length)) (words rs (p+(Ae r).length))).head?
  cases Ay r with
  |some e=>rfl
  |none=>exact DF rs _
theorem FC:∀(a b:List Nat) (p:Nat),words (a++b) p=words a p++words b (p+(flat a).length)
 |[],_,_=>rfl
 |r::a,b,p=>by
  show cond (Ay r).isSome (p::words (a++b) (p+(Ae r).length)) (words (a++b) (p+(Ae r).length))=cond (Ay r).isSome (p::words a (p+(Ae r).length)) (words a (p+(Ae r).length))++words b (p+(Ae r++flat a).length)
  rw[FC a b,zd,zO]
  cases(Ay r).isSome <;>rfl
end
section
open Rxm Pu
noncomputable def EC:List (List Nat)→Nat→List (List Nat)
 |[],_=>[]
 |[g],p=>[g++[p]]
 |g::h::G,p=>g::EC (h::G) p
theorem BK:∀(G:List (List Nat)) (g:List Nat) (p:Nat),EC (G++[g]) p=G++[g++[p]]
 |[],_,_=>rfl
 |[x],g,p=>rfl
 |x::y::G,g,p=>zy (x::·) (BK (y::G) g p)
noncomputable def gs(r:Nat)(G:List (List Nat))(p:Nat):List (List Nat):=cond (Ay r).isSome (EC (cond (colon r) (G++[[]]) G) p) (cond (colon r) (G++[[]]) G)
noncomputable def gf:List Nat→List (List Nat)→Nat→List (List Nat)
 |[],G,_=>G
 |r::rs,G,p=>gf rs (gs r G p) (p+(Ae r).length)
theorem Mu:∀(a b:List Nat) (G:List (List Nat)) (p:Nat),gf (a++b) G p=gf b (gf a G p) (p+(flat a).length)
 |[],_,_,_=>rfl
 |r::a,b,G,p=>by
  show gf (a++b) (gs r G p) (p+(Ae r).length)=gf b (gf a (gs r G p) (p+(Ae r).length)) (p+(Ae r++flat a).length)
  rw[Mu a b,zd,zO]
theorem Gf:∀(b:List Nat) (G:List (List Nat)) (g:List Nat) (p:Nat),(∀x∈b,colon x=false)→gf b (G++[g]) p=G++[g++words b p]
 |[],G,g,p,_=>by show G++[g]=G++[g++[]];rw[zE]
 |r::b,G,g,p,h=>by
  have hr:=h r (.head _)
  have hb:=fun x hx=>h x (.tail _ hx)
  show gf b (cond (Ay r).isSome (EC (cond (colon r) ((G++[g])++[[]]) (G++[g])) p) (cond (colon r) ((G++[g])++[[]]) (G++[g]))) (p+(Ae r).length)=G++[g++cond (Ay r).isSome (p::words b (p+(Ae r).length)) (words b (p+(Ae r).length))]
  rw[hr,jE]
  cases(Ay r).isSome with
  |true=>
   rw[j4,BK,Gf b G (g++[p]) _ hb,zl];rfl
  |false=>rw[jE,Gf b G g _ hb];rfl
theorem NI:∀(b:List Nat) (p:Nat),(∀x∈b,colon x=false)→gf b [] p=[]
 |[],_,_=>rfl
 |r::b,p,h=>by
  have hr:=h r (.head _)
  show gf b (cond (Ay r).isSome (EC (cond (colon r) ([]++[[]]) []) p) (cond (colon r) ([]++[[]]) [])) (p+(Ae r).length)=[]
  rw[hr,jE]
  cases(Ay r).isSome <;>exact NI b _ fun x hx=>h x (.tail _ hx)
theorem Mv{a b:List Nat}{r:Nat}(hr:colon r=true)(h:∀x∈b,colon x=false):gf (a++r::b) [] 0=gf a [] 0++[words (r::b) (flat a).length]:=by
 rw[Mu,jr]
 generalize gf a [] 0=G
 generalize(flat a).length=p
 show gf b (cond (Ay r).isSome (EC (cond (colon r) (G++[[]]) G) p) (cond (colon r) (G++[[]]) G)) (p+(Ae r).length)=G++[cond (Ay r).isSome (p::words b (p+(Ae r).length)) (words b (p+(Ae r).length))]
 rw[hr,j4]
 cases(Ay r).isSome with
 |true=>rw[j4,BK,Gf b G _ _ h];rfl
 |false=>rw[jE,Gf b G _ _ h];rfl
noncomputable def hd(n:Nat)(G:List (List Nat)):List Nat:=((G.drop (G.length - n)).filterMap List.head?).reverse
theorem X7(n:Nat):hd n []=[]:=by unfold hd;rw[List.drop_nil];rfl
theorem Ua(G:List (List Nat)):hd 0 G=[]:=by unfold hd;rw[Nat.sub_zero,List.drop_length];rfl
theorem JW(n:Nat)(G:List (List Nat))(g:List Nat):hd (n+1) (G++[g])=g.head?.toList++hd n G:=by
 unfold hd
 rw[zd,show G.length+[g].length - (n+1)=G.length - n by simp only[zK,List.length_nil];lia,jR (j9 _ _),List.filterMap_append,List.reverse_append]
 cases g <;>rfl
noncomputable def PB(bar:Nat→Bool):List Nat→List Nat
 |[]=>[]
 |x::l=>cond (bar x) (x::PB bar l) [x]
noncomputable def free(bar:Nat→Bool):List Nat→Option Nat
 |[]=>none
 |x::l=>cond (bar x) (free bar l) (some x)
inductive Cd(bar:Nat→Bool):Nat→List Nat→List Nat→Option Nat→Prop
 |stop {rs:List Nat}:Cd bar 0 rs [] none
 |out {n:Nat} {rs:List Nat} (h:∀x∈rs,colon x=false):Cd bar (n+1) rs [] none
 |no {n:Nat} {a b:List Nat} {r:Nat} {l:List Nat} {o:Option Nat} (hr:colon r=true) (h:∀x∈b,colon x=false) (hf:first (r::b) (flat a).length=none) (t:Cd bar n a l o):Cd bar (n+1) (a++r::b) l o
 |barred {n:Nat} {a b:List Nat} {r s e:Nat} {l:List Nat} {o:Option Nat} (hr:colon r=true) (h:∀x∈b,colon x=false) (hf:first (r::b) (flat a).length=some (s,e)) (hb:bar s=true) (t:Cd bar n a l o):Cd bar (n+1) (a++r::b) (s::l) o
 |yes {n:Nat} {a b:List Nat} {r s e:Nat} (hr:colon r=true) (h:∀x∈b,colon x=false) (hf:first (r::b) (flat a).length=some (s,e)) (hb:bar s=false):Cd bar (n+1) (a++r::b) [s] (some s)
theorem NK{rs:List Nat}{p s e:Nat}(h:first rs p=some (s,e)):(words rs p).head? =some s:=by rw[←DF,h];rfl
theorem Uc{rs:List Nat}{p:Nat}(h:first rs p=none):(words rs p).head? =none:=by rw[←DF,h];rfl
theorem Cd.is{bar:Nat→Bool}{n:Nat}{rs l:List Nat}{o:Option Nat}(t:Cd bar n rs l o):l=PB bar (hd n (gf rs [] 0))∧o=free bar (hd n (gf rs [] 0)):=by
 induction t with
 |stop=>rw[Ua];exact⟨rfl,rfl⟩
 |out h=>rw[NI _ _ h,X7];exact⟨rfl,rfl⟩
 |no hr h hf _ ih=>rw[Mv hr h,JW,Uc hf];exact ih
 |barred hr h hf hb _ ih=>
  rw[Mv hr h,JW,NK hf]
  show _=cond (bar _) _ _∧_=cond (bar _) _ _
  rw[hb]
  exact⟨zy _ ih.1,ih.2⟩
 |yes hr h hf hb=>
  rw[Mv hr h,JW,NK hf]
  show _=cond (bar _) _ _∧_=cond (bar _) _ _
  rw[hb];exact⟨rfl,rfl⟩
end
section
open Rxm Pu
theorem IJ{bar:Nat→Bool}:∀{l:List Nat},free bar l=none→PB bar l=l
 |[],_=>rfl
 |x::l,h=>by
  have h:cond (bar x) (free bar l) (some x)=none:=h
  show cond (bar x) (x::PB bar l) [x]=_
  cases hb:bar x with
  |true=>rw[hb]at h;exact zy (x::·) (IJ h)
  |false=>rw[hb]at h;exact nomatch h
theorem GB{bar:Nat→Bool}{f:Nat}:∀{l:List Nat},free bar l=some f→bar f=false∧f∈l
 |[],h=>nomatch h
 |x::l,h=>by
  have h:cond (bar x) (free bar l) (some x)=some f:=h
  cases hb:bar x with
  |true=>rw[hb]at h;exact⟨(GB h).1,.tail _ (GB h).2⟩
  |false=>rw[hb]at h;cases h;exact⟨hb,.head _⟩
noncomputable def idx(x:Nat):List Nat→Nat
 |[]=>0
 |y::l=>cond (Nat.beq y x) 0 (idx x l+1)
theorem IK{bar:Nat→Bool}{f:Nat}:∀{l:List Nat},free bar l=some f→PB bar l=l.take (idx f l+1)
 |[],h=>nomatch h
 |x::l,h=>by
  have hf:=(GB h).1
  have h:cond (bar x) (free bar l) (some x)=some f:=h
  show cond (bar x) (x::PB bar l) [x]=(x::l).take (cond (Nat.beq x f) 0 (idx f l+1)+1)
  cases hb:bar x with
  |true=>
   rw[hb]at h
   have hx:Nat.beq x f=false:=Bool.eq_false_iff.mpr fun e=>by rw[zw e,hf]at hb;exact Bool.noConfusion hb
   rw[hx,j4,jE,IK h];rfl
  |false=>
   rw[hb]at h
   have e:=ze h
   rw[e,show Nat.beq f f=true from jA f];rfl
theorem FK{bar:Nat→Bool}:∀l:List Nat,free bar l=(l.filter fun x=> !bar x).head?
 |[]=>rfl
 |x::l=>by
  show cond (bar x) (free bar l) (some x)=_
  rw[List.filter_cons]
  cases hb:bar x with
  |true=>exact FK l
  |false=>rfl
theorem Hl:∀(rs:List Nat) (p x:Nat),x∈words rs p→p≤x∧x < p+(flat rs).length
 |[],_,_,h=>nomatch h
 |r::rs,p,x,h=>by
  have hr:=Bt r
  have hl:(flat (r::rs)).length=(Ae r).length+(flat rs).length:=zd
  have h:x∈cond (Ay r).isSome (p::words rs (p+(Ae r).length)) (words rs (p+(Ae r).length)):=h
  have k:x∈words rs (p+(Ae r).length)→p≤x∧x < p+(flat (r::rs)).length:=fun h=>by
   have:=Hl rs _ x h
   lia
  cases hw:(Ay r).isSome with
  |true=>
   rw[hw]at h
   obtain rfl |h:=zI.mp h
   ·lia
   ·exact k h
  |false=>rw[hw]at h;exact k h
theorem L0{a b:List Nat}{r:Nat}(hr:(Ay r).isSome=true):(words (a++r::b) 0).filter (fun x=>Nat.blt (flat a).length x)=words b ((flat a).length+(Ae r).length):=by
 have hl:=Bt r
 rw[FC,jr,List.filter_append]
 have h1:(words a 0).filter (fun x=>Nat.blt (flat a).length x)=[]:=List.filter_eq_nil_iff.mpr fun x hx h=>by
  have:=Hl a 0 x hx
  have:=zC h
  lia
 have h2:words (r::b) (flat a).length=(flat a).length::words b ((flat a).length+(Ae r).length):=by
  show cond (Ay r).isSome _ _=_
  rw[hr];rfl
 have h3:(words b ((flat a).length+(Ae r).length)).filter (fun x=>Nat.blt (flat a).length x)=words b ((flat a).length+(Ae r).length):=List.filter_eq_self.mpr fun x hx=>by
  have:=Hl b _ x hx
  exact zD (by lia)
 have h4:Nat.blt (flat a).length (flat a).length=false:=Bool.eq_false_iff.mpr fun e=>j6 _ (zC e)
 rw[h1,h2,Js,List.filter_cons,h4,h3];rfl
theorem H6:∀(rs:List Nat) (p s e:Nat),first rs p=some (s,e)→∃a r b w,rs=a++r::b∧s=p+(flat a).length∧Ay r=some w∧e=s+w
 |[],_,_,_,h=>nomatch h
 |r::rs,p,s,e,h=>by
  have h:(match Ay r with |some e=>some (p,p+e) |none=>first rs (p+(Ae r).length))=some (s,e):=h
  cases hw:Ay r with
  |some w=>rw[hw]at h;cases h;exact⟨[],r,rs,w,rfl,rfl,hw,rfl⟩
  |none=>
   rw[hw]at h
   obtain⟨a,x,b,w,e1,e2,e3,e4⟩:=H6 rs _ s e h
   exact⟨r::a,x,b,w,by rw[e1];rfl,by rw[e2];show _=p+(Ae r++flat a).length;rw[zd,zO],e3,e4⟩
theorem V2(r:Nat):∀w,Ay r=some w→0 < w∧w < (Ae r).length:=LJ (fun r=>∀w,Ay r=some w→0 < w∧w < (Ae r).length) (fun w h=>by cases h;decide) (fun _ h=>nomatch h) (fun w h=>by cases h;decide) (fun _ h=>nomatch h) (fun w h=>by cases h;decide) (fun _ _ h=>nomatch h) r
noncomputable def order(bar:Nat→Bool)(rs:List Nat):List Nat:=match free bar (hd 5 (gf rs [] 0))with
 |none=>hd 5 (gf rs [] 0)++(words rs 0).take 1
 |some f=>(hd 5 (gf rs [] 0)).take (idx f (hd 5 (gf rs [] 0))+1)++(words rs 0).filter fun x=>Nat.blt f x
theorem GX{bar:Nat→Bool}{rs l:List Nat}(t:Cd bar 5 rs l none):order bar rs=l++(words rs 0).take 1:=by
 have h:=t.is
 unfold order
 rw[←h.2,h.1,IJ h.2.symm]
theorem GY{bar:Nat→Bool}{rs l:List Nat}{f:Nat}(t:Cd bar 5 rs l (some f)):order bar rs=l++(words rs 0).filter fun x=>Nat.blt f x:=by
 have h:=t.is
 unfold order
 rw[←h.2,h.1,IK h.2.symm]
end
section
open L04 Rxm Pu
noncomputable def bar:List Nat→Nat→Bool
 |[],_=>false
 |y::r,p=>cond (Nat.beq y p) true (bar r p)
theorem DW(p:Nat):∀bs:List Nat,CJ (.ofNat p) (gv bs)=some (bar bs p)
 |[]=>rfl
 |y::r=>by
  show(CJ (.ofNat p) (gv r)).bind _=_
  rw[DW p r];rfl
noncomputable def told(b:Nat→Bool):List Nat→Val→Val
 |[],v=>v
 |p::l,v=>told b l (cond (b p) v (.int (.ofNat p)))
theorem Hj{b:Nat→Bool}:∀{l m:List Nat} {v:Val},told b (l++m) v=told b m (told b l v)
 |[],_,_=>rfl
 |_::l,_,_=>Hj (l:=l)
noncomputable def oV:Option Nat→Val
 |some f=>.int (.ofNat f)
 |none=>.none
theorem Cd.told{b:Nat→Bool}{n:Nat}{rs l:List Nat}{o:Option Nat}(t:Cd b n rs l o):Pq.told b l .none=oV o:=by
 induction t with
 |stop=>rfl
 |out _=>rfl
 |no _ _ _ _ ih=>exact ih
 |barred hr h hf hb _ ih=>
  show Pq.told b _ (cond (b _) _ _)=_
  rw[hb];exact ih
 |yes hr h hf hb=>
  show Pq.told b [] (cond (b _) _ _)=_
  rw[hb];rfl
theorem DR:∀{rs:List Nat} {p s e:Nat},first rs p=some (s,e)→∃a x b w,rs=a++x::b∧s=p+(flat a).length∧Ay x=some w∧e=s+w∧words rs p=s::words b (s+(Ae x).length)
 |[],_,_,_,h=>nomatch h
 |r::rs,p,s,e,h=>by
  have h:(match Ay r with |some e=>some (p,p+e) |none=>first rs (p+(Ae r).length))=some (s,e):=h
  cases hw:Ay r with
  |some w=>
   rw[hw]at h;cases h
   refine⟨[],r,rs,w,rfl,rfl,hw,rfl,?_⟩
   show cond (Ay r).isSome _ _=_
   rw[hw];rfl
  |none=>
   rw[hw]at h
   obtain⟨a,x,b,w,e1,e2,e3,e4,e5⟩:=DR h
   refine⟨r::a,x,b,w,by rw[e1];rfl,by rw[e2];show _=p+(Ae r++flat a).length;rw[zd,zO],e3,e4,?_⟩
   show cond (Ay r).isSome _ _=_
   rw[hw];exact e5
theorem EA:∀{rs:List Nat} {p:Nat},first rs p=none→words rs p=[]
 |[],_,_=>rfl
 |r::rs,p,h=>by
  have h:(match Ay r with |some e=>some (p,p+e) |none=>first rs (p+(Ae r).length))=none:=h
  show cond (Ay r).isSome _ _=_
  cases hw:Ay r with
  |some w=>rw[hw]at h;cases h
  |none=>rw[hw]at h;exact EA h
theorem LW(b:Nat→Bool):∀(n:Nat) (rs:List Nat),∃l o,Cd b n rs l o
 |0,rs=>⟨_,_,.stop⟩
 |n+1,rs=>by
  obtain h |⟨a,r,c,e,h1,h2⟩:=cut rs
  ·exact⟨_,_,.out h⟩
  ·subst e
   obtain⟨l,o,t⟩:=LW b n a
   cases hf:first (r::c) (flat a).length with
   |none=>exact⟨_,_,.no h1 h2 hf t⟩
   |some p=>
    obtain⟨s,e⟩:=p
    cases hb:b s with
    |true=>exact⟨_,_,.barred h1 h2 hf hb t⟩
    |false=>exact⟨_,_,.yes h1 h2 hf hb⟩
theorem Cd.row{b:Nat→Bool}{n:Nat}{rs l:List Nat}{o:Option Nat}(t:Cd b n rs l o):∀f,o=some f→∃a x c w,rs=a++x::c∧f=(flat a).length∧Ay x=some w:=by
 induction t with
 |stop=>exact fun _ h=>nomatch h
 |out _=>exact fun _ h=>nomatch h
 |@no n a b r l o hr h hf t ih=>
  intro f e
  obtain⟨a',x,c,w,e1,e2,e3⟩:=ih f e
  exact⟨a',x,c++r::b,w,by rw[e1,zl];rfl,e2,e3⟩
 |@barred n a b r s e l o hr h hf hb t ih=>
  intro f e
  obtain⟨a',x,c,w,e1,e2,e3⟩:=ih f e
  exact⟨a',x,c++r::b,w,by rw[e1,zl];rfl,e2,e3⟩
 |@yes n a b r s e hr h hf hb=>
  intro f e
  obtain⟨a',x,c,w,e1,e2,e3,_⟩:=H6 _ _ _ _ hf
  refine⟨a++a',x,c,w,by rw[e1,zl],?_,e3⟩
  rw[←ze e,e2,Bd,zd]
section
variable {h:List Cell}{j stop:Nat}{a:Val}{bs:List Nat}
noncomputable def XO(v:Val)(F:Nat→Prop):Prop:=∃a,v=.exc a∧F a
noncomputable abbrev Hp(h:List Cell)(j:Nat)(ys:List Nat):List Cell:=h.set j (.Ak (gv ys))
theorem ask{K:LV→St→Prop}{X:AN→St→Prop}{ys:List Nat}{p:Nat}{b:Bool}{loc:List (Option LV)}{own:List (List Val)}{sf:List (Option LV)}(hj:j < h.length)(hl:ys.length < AJ)(hb:bar bs p=b)
  (hk:ys.length+1≤stop→K (.v (.bool b)) ⟨loc,own,sf,Hp h j (ys++[p])⟩) (hx:stop≤ys.length→XO a fun a=>X (.user a) ⟨loc,own,sf,Hp h j (ys++[p])⟩):
  P5 X K [.hl j,.int (.ofNat stop),a,.seq false (gv bs)] (.int (.ofNat p)) ⟨loc,own,sf,Hp h j ys⟩:=by
 have e:(Hp h j ys)[j]? =some (.Ak (gv ys)):=jv hj
 have e2:(Hp h j ys).set j (.Ak (gv ys++[.int (.ofNat p)]))=Hp h j (ys++[p]):=by show _=h.set j (.Ak (gv (ys++[p])));rw[CI];exact List.set_set ..
 refine⟨_,_,_,_,_,_,rfl,rfl,e,by rw[BH];exact hl,?_⟩
 rw[BH,e2]
 by_cases hs:stop≤ys.length
 ·exact .inl ⟨show Nat.blt stop (ys.length+1)=true from CH (by lia),hx hs⟩
 ·exact .inr ⟨show Nat.blt stop (ys.length+1)=false from Pu.HX (by lia),b,by rw[←hb];exact DW p bs,hk (by lia)⟩
end
end
section
open L04 Rxm Pu
section
variable {rx:Rx}{t:Txt}{h:List Cell}{j stop:Nat}{a:Val}{bs O:List Nat}{sf:List (Option LV)}
theorem M2{o:Option (Nat×Nat)}{p q:Nat}(h:rx.syn t p q=o)(h1:p≤q)(h2:q≤t.length)(h3:t.length≤50000):Eu rx .syn3 (.str t) (.int (.ofNat p)) (.int (.ofNat q))=CM o:=by
 show cond (Nat.ble p q && (Nat.ble q t.length && Nat.ble t.length 50000)) (CM (rx.syn t p q)) none=_
 rw[zD h1,zD h2,zD h3,h];rfl
theorem ZK{o:Option (Nat×Nat)}{p:Nat}(h:rx.syn t p t.length=o)(h1:p≤t.length)(h3:t.length≤50000):Bu rx .syn2 (.str t) (.int (.ofNat p))=CM o:=by
 show cond (Nat.ble p t.length && Nat.ble t.length 50000) (CM (rx.syn t p t.length)) none=_
 rw[zD h1,zD h3,h];rfl
theorem ST{o:Option (Nat×Nat)}(h:rx.syn t 0 t.length=o)(h3:t.length≤50000):Cb rx .syn1 (.str t)=CM o:=by
 show cond (Nat.ble t.length 50000) (CM (rx.syn t 0 t.length)) none=_
 rw[zD h3,h];rfl
noncomputable abbrev aP(j stop:Nat)(a:Val)(bs:List Nat):List Val:=[.hl j,.int (.ofNat stop),a,.seq false (gv bs)]
noncomputable abbrev sG(t:Txt)(j stop:Nat)(a:Val)(bs:List Nat)(l1 l2 l3:Option LV)(pos:Val)(l6 l7:Option LV)(sf:List (Option LV))(h:List Cell):St:=
 ⟨[some (.cb 6 (aP j stop a bs)),l1,l2,l3,some (.v (.str t)),some (.v pos),l6,l7],[],sf,h⟩
noncomputable def gA(X:AN→St→Prop)(h:List Cell)(j stop:Nat)(a:Val)(sf:List (Option LV))(O:List Nat):Prop:=
 ∀loc p ys r,ys++p::r=O→ys.length=stop→XO a fun a=>X (.user a) ⟨loc,[],sf,Hp h j (ys++[p])⟩
theorem Py{cl:Ng}{ini nf:Nat}{X:AN→St→Prop}{Q:Out→St→Prop}{l7:Option LV}(hrx:rx.syn=Ck)(hj:j < h.length)(hO:O.length < AJ)(ht3:t.length≤50000)(hX:gA X h j stop a sf O){n:Nat}{rs l:List Nat}{o:Option Nat}(T:Cd (bar bs) n rs l o):
  ∀(B:Txt) (ys r:List Nat) (l2 l3 l6:Option LV) (vs:List Val),t=flat rs++B→vs.length=n→ys++(l++r)=O→ys.length≤stop→
  (ys.length+l.length≤stop→∀l1 l2 l3 l6,Q .next (sG t j stop a bs l1 l2 l3 (oV o) l6 l7 sf (Hp h j (ys++l))))→
  forL (CW [.loc 2]) (Au ⟨rx,cl,ini,nf⟩ X AZ) Q vs (sG t j stop a bs (I (flat rs).length) l2 l3 .none l6 l7 sf (Hp h j ys)):=by
 have clipL:∀{m:Nat},m≤t.length→clip t.length (Int.ofNat m)=m:=fun h=>jz h
 have find:∀{c b:List Nat} {x:Nat} {B:Txt},t=flat (c++x::b)++B→colon x=true→(∀y∈b,colon y=false)→
   ∃k,A4 [58,10] t 0 (clip t.length (Int.ofNat (flat (c++x::b)).length))=.ofNat k∧A4 [10] t 0 (clip t.length (A4 [58,10] t 0 (clip t.length (Int.ofNat (flat (c++x::b)).length))))+Int.ofNat 1=.ofNat (flat c).length∧
   rx.syn t (flat c).length (flat (c++x::b)).length=first (x::b) (flat c).length∧(flat c).length≤(flat (c++x::b)).length∧(flat (c++x::b)).length≤t.length:=fun{c b x B} ht hx hb=>by
  have l1:(flat (c++x::b)).length≤t.length:=by rw[ht,zd];exact zB _ _
  have l2:(flat (c++x::b)).length=(flat c).length+((Ae x).length+(flat b).length):=by rw[Bd,zd];show _+(Ae x++flat b).length=_;rw[zd]
  have hr:=Bt x
  have h1:A4 [58,10] t 0 (clip t.length (Int.ofNat (flat (c++x::b)).length))=.ofNat ((flat c).length+(Ae x).length - 2):=by rw[clipL l1,ht];exact Zd hx hb
  refine⟨_,h1,?_,?_,by rw[l2];exact zB _ _,l1⟩
  ·rw[h1,clipL (by rw[l2]at l1;lia),ht];exact Yy hx
  ·rw[hrx,ht,Bd,zl]
   exact IC (B:=B) (rs:=x::b) (EM c)
 induction T with
 |@stop rs'=>
  intro B ys r l2 l3 l6 vs ht hv hys hs hQ
  have hv:=jc hv
  subst hv
  have:=hQ hs (I (flat rs').length) l2 l3 l6
  rw[zE]at this
  exact this
 |@out n' rs' hc=>
  intro B ys r l2 l3 l6 vs ht hv hys hs hQ
  match vs,hv with
  |x::vs,_=>
  have l1:(flat rs').length≤t.length:=by rw[ht,zd];exact zB _ _
  have h1:A4 [58,10] t 0 (clip t.length (Int.ofNat (flat rs').length))=Int.negSucc 0:=by rw[clipL l1,ht];exact eD hc
  have:=hQ hs
  rw[zE]at this
  conv=>whnf
  refine AL (show ltI (A4 [58,10] t 0 (clip t.length (Int.ofNat (flat rs').length))) 0=true by rw[h1];rfl) ?_
  conv=>whnf
  exact this _ _ _ _
 |@no n' c b z l' o' hr hc hf T ih=>
  intro B ys r l2 l3 l6 vs ht hv hys hs hQ
  match vs,hv with
  |x::vs,hv=>
  obtain⟨k,h1,ej,hsy,g1,g2⟩:=find ht hr hc
  have ih:=fun l2 l6=>ih (flat (z::b)++B) ys r l2 (I (flat c).length) l6 vs (by rw[ht,Bd,zl]) (Nat.succ.inj hv) hys hs hQ
  unfold I at ih
  rw[←ej]at ih
  have hq:=M2 (rx:=rx) (hsy.trans hf) g1 g2 ht3
  rw[←ej]at hq
  conv=>whnf
  refine BI (show ltI (A4 [58,10] t 0 (clip t.length (Int.ofNat (flat (c++z::b)).length))) 0=false by rw[h1];rfl) ?_
  conv=>whnf
  refine Bv hq ?_
  conv=>whnf
  exact ih _ _
 |@barred n' c b z s e l' o' hr hc hf hb T ih=>
  intro B ys r l2 l3 l6 vs ht hv hys hs hQ
  match vs,hv with
  |x::vs,hv=>
  obtain⟨k,h1,ej,hsy,g1,g2⟩:=find ht hr hc
  have hys':(ys++[s])++(l'++r)=O:=by rw[←hys,zl];rfl
  have ih:=fun l2 l6 hs=>ih (flat (z::b)++B) (ys++[s]) r l2 (I (flat c).length) l6 vs (by rw[ht,Bd,zl]) (Nat.succ.inj hv) hys' hs fun hl l1 l2 l3 l6=>by
   rw[zl]
   refine hQ ?_ l1 l2 l3 l6
   rw[zd]at hl
   show ys.length+(l'.length+1)≤stop
   have:[s].length=1:=rfl
   lia
  unfold I at ih
  rw[←ej]at ih
  have hq:=M2 (rx:=rx) (hsy.trans hf) g1 g2 ht3
  rw[←ej]at hq
  conv=>whnf
  refine BI (show ltI (A4 [58,10] t 0 (clip t.length (Int.ofNat (flat (c++z::b)).length))) 0=false by rw[h1];rfl) ?_
  conv=>whnf
  refine Bv hq ?_
  conv=>whnf
  refine ask hj (by rw[←hys,zd]at hO;lia) hb (fun hl=>?_) (fun hl=>hX _ s ys (l'++r) hys (jJ hs hl))
  conv=>whnf
  exact ih _ _ (by rw[zd];exact hl)
 |@yes n' c b z s e hr hc hf hb=>
  intro B ys r l2 l3 l6 vs ht hv hys hs hQ
  match vs,hv with
  |x::vs,hv=>
  obtain⟨k,h1,ej,hsy,g1,g2⟩:=find ht hr hc
  have hq:=M2 (rx:=rx) (hsy.trans hf) g1 g2 ht3
  rw[←ej]at hq
  conv=>whnf
  refine BI (show ltI (A4 [58,10] t 0 (clip t.length (Int.ofNat (flat (c++z::b)).length))) 0=false by rw[h1];rfl) ?_
  conv=>whnf
  refine Bv hq ?_
  conv=>whnf
  refine ask hj (by rw[←hys,zd]at hO;lia) hb (fun hl=>?_) (fun hl=>hX _ s ys r hys (jJ hs hl))
  conv=>whnf
  exact hQ hl _ _ _ _
end
end
section
open L04 Rxm Pu
section
variable {rx:Rx}{t:Txt}{h:List Cell}{j stop:Nat}{a:Val}{bs O:List Nat}{sf:List (Option LV)}
theorem K9{cl:Ng}{ini nf:Nat}{X:AN→St→Prop}{Q:Out→St→Prop}{l1 l2:Option LV}{v':Val}(hrx:rx.syn=Ck)(hj:j < h.length)(hO:O.length < AJ)(ht3:t.length≤50000)(hX:gA X h j stop a sf O)
  (hQ:O.length≤stop→∀l3 l6 l7,Q .next (sG t j stop a bs l1 l2 l3 v' l6 l7 sf (Hp h j O))):∀(n:Nat) (b:List Nat) (A:Txt) (r i:Nat) (v:Val) (ys:List Nat) (l6 l7:Option LV),0 < i→i < (Ae r).length→t=A++(Ae r++flat b)→ys++words b (A.length+(Ae r).length)=O→ys.length≤stop→b.length < n→
  v'=told (bar bs) (words b (A.length+(Ae r).length)) v→GQ (Kz ⟨rx,cl,ini,nf⟩ X A3) (Au ⟨rx,cl,ini,nf⟩ X A0) (Au ⟨rx,cl,ini,nf⟩ X A2) Q n (sG t j stop a bs l1 l2 (I (A.length+i)) v l6 l7 sf (Hp h j ys))
 |0,_,_,_,_,_,_,_,_,_,_,_,_,_,h,_=>absurd h (jy _)
 |n+1,b,A,r,i,v,ys,l6,l7,hi0,hi,ht,hys,hs,hn,hv=>by
  have hlen:t.length=A.length+((Ae r).length+(flat b).length):=by rw[ht,zd,zd]
  have hsy:rx.syn t (A.length+i) t.length=first b (A.length+(Ae r).length):=by
   rw[hrx,ht]
   have:=SU (A:=A) (B:=[]) (rs:=b) hi0 hi
   rw[zE]at this
   exact this
  have hq:=fun o (e:first b (A.length+(Ae r).length)=o)=>ZK (rx:=rx) (hsy.trans e) (by lia) ht3
  conv=>whnf
  cases hf:first b (A.length+(Ae r).length)with
  |none=>
   refine Bv (hq _ hf) ?_
   rw[EA hf]at hys hv
   rw[zE]at hys
   subst hys;subst hv
   conv=>whnf
   exact hQ hs _ _ _
  |some p=>
   obtain⟨s,e⟩:=p
   obtain⟨b1,x,b2,w,e1,e2,e3,e4,e5⟩:=DR hf
   have hw:=V2 x w e3
   refine Bv (hq _ hf) ?_
   rw[e5]at hys hv
   have hA':(A++(Ae r++flat b1)).length=s:=by rw[e2,zd,zd,zO]
   have ht':t=(A++(Ae r++flat b1))++(Ae x++flat b2):=by rw[ht,e1,Bd,zl,zl];rfl
   have hb2:b2.length < n:=by
    rw[e1,zd]at hn
    have:(x::b2).length=b2.length+1:=rfl
    lia
   have go:=fun v hvv l6 l7 hs=>K9 (cl:=cl) (ini:=ini) (nf:=nf) hrx hj hO ht3 hX hQ n b2 (A++(Ae r++flat b1)) x w v (ys++[s]) l6 l7 hw.1 hw.2 ht' (by rw[hA',zl];exact hys) hs hb2 hvv
   rw[hA']at go
   rw[←e4]at go
   conv=>whnf
   cases hb:bar bs s with
   |true=>
    refine ask hj (by rw[←hys,zd]at hO;lia) hb (fun hl=>?_) (fun hl=>hX _ s ys _ hys (jJ hs hl))
    conv=>whnf
    exact go _ (by rw[hv];show told _ _ (cond (bar bs s) _ _)=_;rw[hb];rfl) _ _ (by rw[zd];exact hl)
   |false=>
    refine ask hj (by rw[←hys,zd]at hO;lia) hb (fun hl=>?_) (fun hl=>hX _ s ys _ hys (jJ hs hl))
    conv=>whnf
    exact go _ (by rw[hv];show told _ _ (cond (bar bs s) _ _)=_;rw[hb];rfl) _ _ (by rw[zd];exact hl)
theorem QX{C:Cfg}{X:AN→St→Prop}{Q:Out→St→Prop}{k n:Nat}{b r:Ss}{σ:St}(hn:Nat.blt n AJ=true)(h:forL (CW [.loc k]) (Au C X b) (fun o σ=>match o with | .next=>Au C X r Q σ |o=>Q o σ) (Er 0 n) σ):
  Au C X (.cons (.for_ [.loc k] (.range1 (.lit (.int (.ofNat n)))) b) r) Q σ:=by
 conv=>whnf
 exact AL hn h
noncomputable def mw:Ss:=.cons (.if_ (.p1 .isnone (.loc 5)) (.cons (.asg 6 (.p1 .syn1 (.loc 4))) (.cons (.if_ (.bl true (.cons (.loc 6) (.cons (.not_ (.icall 0 (.p1 .mstart (.loc 6)))) .nil))) (.cons (.asg 5 (.p1 .mstart (.loc 6))) .nil) (.nil)) (.cons (.ret (.loc 5)) .nil))) (.nil)) (.cons (.asg 3 (.p2 .add (.loc 5) (.lit (.int (.ofNat 1))))) (.cons (.while_ A3 A0 A2) (.cons (.ret (.loc 5)) .nil)))
variable {rs:List Nat}{d iw tw l:Nat}{gl co ss se lc lo br:Option Val}{K:Val→List (Option Val)→List Cell→Prop}{X:AN→List (Option Val)→List Cell→Prop}
theorem QU(hrx:rx.syn=Ck)(hj:j < h.length)(ho:order (bar bs) rs=O)(hO:O.length < AJ)(ht:flat rs=t)(ht3:t.length≤50000)(hK:O.length≤stop→K (told (bar bs) O .none) (fld iw tw t l gl co ss se lc lo br) (Hp h j O))
  (hX:∀p ys r,ys++p::r=O→ys.length=stop→XO a fun a=>X (.user a) (fld iw tw t l gl co ss se lc lo br) (Hp h j (ys++[p]))):
  Au ⟨rx,A8 (PQ rx) d,0,11⟩ (Dv X) (.cons (.for_ [.loc 2] (.range1 (.lit (.int (.ofNat 5)))) AZ) mw) (Ef K) (sG t j stop a bs (I t.length) none none .none none none (B1 (fld iw tw t l gl co ss se lc lo br)) (Hp h j [])):=by
 have hB:gA (Dv X) h j stop a (B1 (fld iw tw t l gl co ss se lc lo br)) O:=fun loc p ys r e hs=>by
  refine(hX p ys r e hs).imp fun a k=>k.imp_right fun k=>?_
  refine Bv (DG _ (fld iw tw t l gl co ss se lc lo br)) ?_
  exact k
 refine QX rfl ?_
 obtain⟨m,o,T⟩:=LW (bar bs) 5 rs
 have hm:=T.told
 have ht0:t=flat rs++[]:=by rw[zE,ht]
 have ex:∃r,[]++(m++r)=O:=by
  cases o with
  |none=>exact⟨_,(GX T).symm.trans ho⟩
  |some f=>exact⟨_,(GY T).symm.trans ho⟩
 obtain⟨r,hr⟩:=ex
 have e0:I t.length=I (flat rs).length:=by rw[ht]
 rw[e0]
 refine Py (cl:=A8 (PQ rx) d) (ini:=0) (nf:=11) (X:=Dv X) (l7:=none) hrx hj hO ht3 hB T [] [] r none none none (Er 0 5) ht0 (G6 ..) hr (zY _) fun hs l1 l2 l3 l6=>?_
 rw[Js]
 have hs:m.length≤stop:=by have:([]:List Nat).length=0:=rfl;lia
 have hsy:∀{o},first rs 0=o→rx.syn t 0 t.length=o:=fun e=>by
  have:=IC (A:=[]) (B:=[]) (rs:=rs) (.inl rfl)
  rw[hrx,←ht,←e]
  rw[zE]at this
  exact this
 cases o with
 |none=>
  have h1:=(GX T).symm.trans ho
  conv=>whnf
  cases hf:first rs 0 with
  |none=>
   rw[EA hf]at h1
   have h1:m++[]=O:=h1
   rw[zE]at h1
   refine Bv (ST (hsy hf) ht3) ?_
   conv=>whnf
   refine Bv (DG _ (fld iw tw t l gl co ss se lc lo br)) ?_
   conv=>whnf
   subst h1
   have:=hK hs
   rw[hm]at this
   exact this
  |some p=>
   obtain⟨s,e⟩:=p
   obtain⟨b1,x,b2,w,e1,e2,e3,e4,e5⟩:=DR hf
   rw[e5]at h1
   have h1:m++[s]=O:=h1
   refine Bv (ST (hsy hf) ht3) ?_
   conv=>whnf
   have hlm:m.length < AJ:=by rw[←h1,zd]at hO;lia
   have htold:told (bar bs) O .none=cond (bar bs s) .none (.int (.ofNat s)):=by
    rw[←h1,Hj,hm];rfl
   rw[htold]at hK
   cases hb:bar bs s with
   |true=>
    refine ask hj hlm hb (fun hl=>?_) (fun hl=>hB _ s m [] h1 (jJ hs hl))
    conv=>whnf
    refine Bv (DG _ (fld iw tw t l gl co ss se lc lo br)) ?_
    conv=>whnf
    rw[hb]at hK
    rw[h1]
    exact hK (by rw[←h1,zd];exact hl)
   |false=>
    refine ask hj hlm hb (fun hl=>?_) (fun hl=>hB _ s m [] h1 (jJ hs hl))
    conv=>whnf
    refine Bv (DG _ (fld iw tw t l gl co ss se lc lo br)) ?_
    conv=>whnf
    rw[hb]at hK
    rw[h1]
    exact hK (by rw[←h1,zd];exact hl)
 |some f=>
  have h1:=(GY T).symm.trans ho
  obtain⟨c,x,b,w,e1,e2,e3⟩:=T.row f rfl
  have hr:=Bt x
  rw[e2,e1,L0 (by rw[e3];rfl)]at h1
  subst e2
  conv=>whnf
  refine⟨_,K9 (cl:=A8 (PQ rx) d) (ini:=0) (nf:=11) (X:=Dv X) (v':=told (bar bs) O .none) hrx hj hO ht3 hB (fun hl l3 l6 l7=>?_) (b.length+1) b (flat c) x 1 _ m _ _ Nat.one_pos (by lia) (by rw[←ht,e1,Bd];rfl) h1 hs (zS _) (by rw[←h1,Hj,hm])⟩
  conv=>whnf
  refine Bv (DG _ (fld iw tw t l gl co ss se lc lo br)) ?_
  conv=>whnf
  exact hK hl
theorem K5(hrx:rx.syn=Ck)(hj:h[j]? =some (.Ak []))(ho:order (bar bs) rs=O)(hO:O.length < AJ)(ht:flat rs=t)(ht3:t.length≤50000)(hK:O.length≤stop→K (told (bar bs) O .none) (fld iw tw t l gl co ss se lc lo br) (Hp h j O))
  (hX:∀p ys r,ys++p::r=O→ys.length=stop→XO a fun a=>X (.user a) (fld iw tw t l gl co ss se lc lo br) (Hp h j (ys++[p]))):
  A8 (PQ rx) (d+1) (2000+3) (fld iw tw t l gl co ss se lc lo br) (.int (.ofNat 6)::aP j stop a bs) h K X:=by
 have hl:=(zn.mp hj).1
 have k:=QU (d:=d) hrx hl ho hO ht ht3 hK hX
 have e:Hp h j []=h:=by
  refine List.ext_getElem? fun i=>?_
  by_cases e:j=i
  ·subst e;exact(jv hl).trans hj.symm
  ·exact jQ e
 rw[e]at k
 conv=>whnf
 conv at k=>whnf
 exact k
end
end
section
open L04 Rxm Pu
noncomputable def Dq(n:Nat):List Val:=(List.range n).map Val.hl
theorem Lc(n:Nat):Dq (n+1)=Dq n++[.hl n]:=by unfold Dq;rw[List.range_succ,jh];rfl
theorem JX(n:Nat):(Dq n).length=n:=by unfold Dq;rw[jb,List.length_range]
noncomputable def Bb(G:List (List Nat)):List Cell:=G.map fun g=>.Ak (gv g)
theorem Db(G:List (List Nat)):(Bb G).length=G.length:=jb ..
noncomputable def Kj:Nat→Txt
 |0=>[116,114,121,58]
 |1=>[120,32,61,32,49]
 |2=>[9,100,101,102,32,103,40,97,41,58]
 |3=>[105,102,32,121,58]
 |4=>[32,32,114,101,116,117,114,110]
 |_=>[39,39,39]
theorem WJ(r:Nat):Ae r=Kj r++[10]:=LJ (fun r=>Ae r=Kj r++[10]) rfl rfl rfl rfl rfl (fun _=>rfl) r
theorem Kk(r:Nat):(Ae r).length≤11:=LJ (fun r=>(Ae r).length≤11) (by decide) (by decide) (by decide) (by decide) (by decide) (fun _=>(by decide:4≤11)) r
noncomputable def Px:List Val:=[.seq false [.str [116,114,121,58],.int (.ofNat 1),.int (.ofNat 1)],.seq false [.str [120,32,61,32,49],.int (.ofNat 0),.int (.ofNat 0)],.seq false [.str [9,100,101,102,32,103,40,97,41,58],.int (.ofNat 1),.int (.ofNat 1)],
 .seq false [.str [105,102,32,121,58],.int (.ofNat 0),.int (.ofNat 1)],.seq false [.str [32,32,114,101,116,117,114,110],.int (.ofNat 1),.int (.ofNat 0)],.seq false [.str [39,39,39],.int (.ofNat 0),.int (.ofNat 0)]]
theorem ZN{rx:Rx}{r:Nat}(h:r < 6):Bu rx .idx (.seq false Px) (.int (.ofNat r))=some (.seq false [.str (Kj r),.int (.ofNat (cond (Ay r).isSome 1 0)),.int (.ofNat (cond (colon r) 1 0))]):=
 PY (P:=fun r=>Bu rx .idx (.seq false Px) (.int (.ofNat r))=some (.seq false [.str (Kj r),.int (.ofNat (cond (Ay r).isSome 1 0)),.int (.ofNat (cond (colon r) 1 0))])) (n:=6) ⟨⟨⟨⟨⟨⟨trivial,rfl⟩,rfl⟩,rfl⟩,rfl⟩,rfl⟩,rfl⟩ r h
theorem XZ(a n:Nat):Int.fmod (.ofNat a) (.ofNat n)=.ofNat (a % n):=by
 induction a using zz with
 |zero=>rw[Nat.zero_mod];rfl
 |succ a=>rfl
theorem I6(a:Int)(n:Nat)(h:0 < n):∃r,r < n∧Int.fmod a (.ofNat n)=.ofNat r:=by
 have h1:0≤Int.fmod a (.ofNat n):=Int.fmod_nonneg_of_pos a (Jp.mpr h)
 have h2:Int.fmod a (.ofNat n) < .ofNat n:=Int.fmod_lt_of_pos a (Jp.mpr h)
 refine zg (Int.eq_ofNat_of_zero_le h1) fun r hr=>?_
 exact⟨r,Jp.mp (by rw[hr]at h2;exact h2),hr⟩
theorem Wb{rx:Rx}{a b:Txt}(h:a.length+b.length≤AJ):Bu rx .add (.str a) (.str b)=some (.str (a++b)):=by
 show cond (Nat.ble (a.length+b.length) AJ) _ _=_
 rw[zD h];rfl
theorem Qb{α:Type}(u:List α)(c:α):Mi (u++[c]) (Int.negSucc 0)=some c:=by
 show cond (Nat.blt 0 (u++[c]).length) ((u++[c])[(u++[c]).length - (0+1)]?) none=_
 rw[zd]
 show(u++[c])[u.length]? =_
 rw[zM (zu _),jl];rfl
noncomputable abbrev sW(v0:Val)(S:Int)(T:Txt)(ob ov oh:List Val)(H:List Cell)(o7 AW AX AQ:Option Val):St:=
 ⟨[some (.v v0),some (.v (.int S)),some (.loc 0),some (.v (.str T)),some (.loc 1),some (.loc 2),some (.loc 3),o7.map LV.v,none,none,none,none,none,none,none,none,none,none,none,none,none,AW.map LV.v,AX.map LV.v,AQ.map LV.v],[Px,ob,ov,oh],[],H⟩
section
variable {C:Cfg}{X:AN→St→Prop}{Q:Out→St→Prop}{v0:Val}{S:Int}{T:Txt}{ob ov oh:List Val}{H:List Cell}{o7 AW AX AQ:Option Val}{rest:Ss}
theorem Zj{x:Int}(hob:ob.length < AJ)(h1:FJ (Int.fmod (Int.fdiv x (.ofNat 6)) (.ofNat 2)) (.ofNat 1)=true→Au C X rest Q (sW v0 S T (ob++[.int (.ofNat T.length)]) ov oh H (some (.int x)) AW AX AQ))
  (h2:FJ (Int.fmod (Int.fdiv x (.ofNat 6)) (.ofNat 2)) (.ofNat 1)=false→Au C X rest Q (sW v0 S T ob ov oh H (some (.int x)) AW AX AQ)):
  Au C X (.cons (.if_ (.p2 .eq (.p2 .mod (.p2 .fdiv (.loc 7) (.lit (.int (.ofNat 6)))) (.lit (.int (.ofNat 2)))) (.lit (.int (.ofNat 1)))) (.cons (.ex (.apnd 4 (.p1 .len (.loc 3)))) .nil) (.nil)) rest) Q (sW v0 S T ob ov oh H (some (.int x)) AW AX AQ):=by
 cases e:FJ (Int.fmod (Int.fdiv x (.ofNat 6)) (.ofNat 2)) (.ofNat 1)with
 |true=>
  conv=>whnf
  refine AL e ?_
  conv=>whnf
  refine AL (CH hob) ?_
  exact h1 e
 |false=>
  conv=>whnf
  refine BI e ?_
  exact h2 e
theorem Vd{c:Bool}(hoh:oh.length < AJ)(h1:c=true→Au C X rest Q (sW v0 S T ob ov (oh++[.hl H.length]) (H++[.Ak []]) o7 AW AX (some (.int (.ofNat 1)))))(h2:c=false→Au C X rest Q (sW v0 S T ob ov oh H o7 AW AX (some (.int (.ofNat 0))))):
  Au C X (.cons (.if_ (.p2 .eq (.loc 23) (.lit (.int (.ofNat 1)))) (.cons (.ex (.apnd 6 (.ntp))) .nil) (.nil)) rest) Q (sW v0 S T ob ov oh H o7 AW AX (some (.int (.ofNat (cond c 1 0))))):=by
 cases c with
 |true=>
  conv=>whnf
  refine AL (CH hoh) ?_
  exact h1 rfl
 |false=>
  conv=>whnf
  exact h2 rfl
theorem Zl{c:Bool}(hov:ov.length < AJ)(h0:c=false→Au C X rest Q (sW v0 S T ob ov oh H o7 AW (some (.int (.ofNat 0))) AQ))(h1:c=true→oh=[]→Au C X rest Q (sW v0 S T ob (ov++[.int (.ofNat T.length)]) oh H o7 AW (some (.int (.ofNat 1))) AQ))
  (h2:c=true→oh≠[]→∃oh' j g,oh=oh'++[.hl j]∧H[j]? =some (.Ak g)∧g.length < AJ∧Au C X rest Q (sW v0 S T ob (ov++[.int (.ofNat T.length)]) oh (H.set j (.Ak (g++[.int (.ofNat T.length)]))) o7 AW (some (.int (.ofNat 1))) AQ)):
  Au C X (.cons (.if_ (.p2 .eq (.loc 22) (.lit (.int (.ofNat 1)))) (.cons (.ex (.apnd 5 (.p1 .len (.loc 3)))) (.cons (.if_ (.p2 .ne (.loc 6) (.seq false (.nil))) (.cons (.ex (.tapp (.p2 .idx (.loc 6) (.p1 .neg (.lit (.int (.ofNat 1))))) (.p1 .len (.loc 3)))) .nil) (.nil)) .nil)) (.nil)) rest) Q (sW v0 S T ob ov oh H o7 AW (some (.int (.ofNat (cond c 1 0)))) AQ):=by
 cases c with
 |false=>
  conv=>whnf
  exact h0 rfl
 |true=>
  cases oh with
  |nil=>
   conv=>whnf
   refine AL (CH hov) ?_
   conv=>whnf
   exact h1 rfl rfl
  |cons y ys=>
   obtain⟨oh',j,g,e1,e2,e3,k⟩:=h2 rfl nofun
   have ei:Bu C.rx .idx (.seq false (y::ys)) (.int (Int.negSucc 0))=some (.hl j):=by rw[e1];exact Qb oh' _
   have et:Lf H j=true:=by unfold Lf;rw[e2]
   conv=>whnf
   refine AL (CH hov) ?_
   conv=>whnf
   refine Bv ei ?_
   conv=>whnf
   refine AL et ?_
   show(match H[j]? with
    |some (.Ak xs)=>Be (Nat.blt xs.length AJ) _ False
    |_=>False)
   rw[e2]
   exact AL (CH e3) k
end
end
section
open L04 Rxm Pu
theorem Hi(G:List (List Nat))(g:List Nat):Bb (G++[g])=Bb G++[.Ak (gv g)]:=jh
noncomputable def Sc(o:Option Val):Prop:=∀v,o=some v→Ci v=true
theorem Fp{i:Int}:Sc (some (.int i)):=fun v e=>by cases e;rfl
theorem Zm{t:Txt}:Sc (some (.str t)):=fun v e=>by cases e;rfl
theorem Iy:Sc none:=fun v e=>nomatch e
structure Inv(rs bs:List Nat)(T:Txt)(ob ov oh:List Val)(H:List Cell):Prop where
 T:T=flat rs
 b:ob=gv bs
 v:ov=gv (words rs 0)
 o:oh=Dq (gf rs [] 0).length
 h:H=Bb (gf rs [] 0)
 nb:bs.length≤rs.length
 nv:(words rs 0).length≤rs.length
 nG:(gf rs [] 0).length≤rs.length
 ng:∀g∈gf rs [] 0,g.length≤rs.length
section
variable {C:Cfg}{X:AN→St→Prop}{Q:Out→St→Prop}{v0:Val}{S:Int}{T:Txt}{ob ov oh:List Val}{H:List Cell}{o7 AW AX AQ:Option Val}{rest:Ss}
theorem s_row{x:Int}{r:Nat}(hr:r < 6)(e:Int.fmod x (.ofNat 6)=.ofNat r)(k:Au C X rest Q (sW v0 S T ob ov oh H (some (.int x)) (some (.str (Kj r))) (some (.int (.ofNat (cond (Ay r).isSome 1 0)))) (some (.int (.ofNat (cond (colon r) 1 0)))))):
  Au C X (.cons (.unp [.loc 21,.loc 22,.loc 23] (.p2 .idx (.loc 2) (.p2 .mod (.loc 7) (.lit (.int (.ofNat 6)))))) rest) Q (sW v0 S T ob ov oh H (some (.int x)) AW AX AQ):=by
 have h:=ZN (rx:=C.rx) hr
 rw[←e]at h
 conv=>whnf
 refine Bv h ?_
 exact k
theorem eE{u:Txt}(hT:T.length+(u.length+1)≤AJ)(k:Q .next (sW v0 S (T++(u++[10])) ob ov oh H o7 (some (.str u)) AX AQ)):
  Au C X (.cons (.aug 3 .add (.p2 .add (.loc 21) (.lit (.str [10])))) .nil) Q (sW v0 S T ob ov oh H o7 (some (.str u)) AX AQ):=by
 have h1:Bu C.rx .add (.str u) (.str [10])=some (.str (u++[10])):=Wb (show u.length+1≤AJ by lia)
 have h2:Bu C.rx .add (.str T) (.str (u++[10]))=some (.str (T++(u++[10]))):=Wb (by rw[zd];exact hT)
 conv=>whnf
 refine Bv h1 ?_
 conv=>whnf
 refine Bv h2 ?_
 exact k
theorem PF{x:Int}{G:List (List Nat)}{p:Nat}{c:Bool}(hp:p=T.length)(ho:oh=Dq G.length)(hH:H=Bb G)(hov:ov.length < AJ)(hG:∀g∈G,g.length < AJ)
  (k:∀ov' oh' H' AX,Sc AX→ov'=cond c (ov++[.int (.ofNat p)]) ov→oh'=Dq (cond c (EC G p) G).length→H'=Bb (cond c (EC G p) G)→Au C X rest Q (sW v0 S T ob ov' oh' H' o7 AW AX AQ)):
  Au C X (.cons (.if_ (.p2 .eq (.loc 22) (.lit (.int (.ofNat 1)))) (.cons (.ex (.apnd 5 (.p1 .len (.loc 3)))) (.cons (.if_ (.p2 .ne (.loc 6) (.seq false (.nil))) (.cons (.ex (.tapp (.p2 .idx (.loc 6) (.p1 .neg (.lit (.int (.ofNat 1))))) (.p1 .len (.loc 3)))) .nil) (.nil)) .nil)) (.nil)) rest) Q (sW v0 S T ob ov oh H o7 AW (some (.int (.ofNat (cond c 1 0)))) AQ):=by
 subst hp
 refine Zl hov (fun e=>?_) (fun e e0=>?_) fun e e0=>?_
 ·subst e;exact k _ _ _ _ Fp rfl ho hH
 ·subst e
  rw[ho]at e0
  have:G.length=0:=by rw[←JX G.length,e0];rfl
  have:=jc this
  subst this
  exact k _ _ _ _ Fp rfl ho hH
 ·subst e
  obtain rfl |⟨G2,g,rfl⟩:G=[]∨∃G2 g,G=G2++[g]:=by
   cases hg:G.reverse with
   |nil=>exact .inl (List.reverse_eq_nil_iff.mp hg)
   |cons g r=>exact .inr ⟨r.reverse,g,by rw[←List.reverse_reverse G,hg,List.reverse_cons]⟩
  ·exact absurd ho e0
  have hl:(G2++[g]).length=G2.length+1:=zd
  have eH:Bb (G2++[g])=Bb G2++[.Ak (gv g)]:=jh
  refine⟨Dq G2.length,G2.length,gv g,by rw[ho,hl,Lc],?_,by rw[BH];exact hG g (zi _ (.head _)),k _ _ _ _ Fp rfl ?_ ?_⟩
  ·rw[hH,eH,zM (Jn (Db _)),Db,jl];rfl
  ·rw[ho,hl];show _=Dq (EC (G2++[g]) _).length;rw[BK,zd];rfl
  ·show _=Bb (EC (G2++[g]) _)
   rw[hH,eH,BK,←CI,List.set_append_right _ _ (Jn (Db _)),Db,jl]
   show Bb G2++[.Ak (gv (g++[_]))]=Bb (G2++[g++[_]])
   exact(Hi _ _).symm
theorem turn{x:Int}{rs bs:List Nat}(I:Inv rs bs T ob ov oh H)(hn:rs.length≤100)(k:∀r bs' T' ob' ov' oh' H' AW AX AQ,Sc AW→Sc AX→Sc AQ→r < 6→Inv (rs++[r]) bs' T' ob' ov' oh' H'→Q .next (sW v0 S T' ob' ov' oh' H' (some (.int x)) AW AX AQ)):
  Au C X ER Q (sW v0 S T ob ov oh H (some (.int x)) AW AX AQ):=by
 obtain⟨r,hr,e⟩:=I6 x 6 (by decide)
 have hT:T.length≤11*rs.length:=by
  rw[I.T]
  have:∀l:List Nat,(flat l).length≤11*l.length:=fun l=>by
   induction l with
   |nil=>exact zu _
   |cons r l ih=>
    have:=Kk r
    show(Ae r++flat l).length≤11*(l.length+1)
    rw[zd];lia
  exact this rs
 have hLIM:=Bk
 have eG:gf (rs++[r]) [] 0=gs r (gf rs [] 0) (flat rs).length:=by rw[Mu,jr];rfl
 have ew:words (rs++[r]) 0=words rs 0++cond (Ay r).isSome [(flat rs).length] []:=by rw[FC,jr];rfl
 have er:(rs++[r]).length=rs.length+1:=zd
 have eT:(T++(Kj r++[10]))=flat (rs++[r]):=by rw[Bd,←WJ,I.T];show _=flat rs++(Ae r++[]);rw[zE]
 have hu:(Kj r).length+1≤11:=by have:=Kk r;rw[WJ,zd]at this;exact this
 have go:∀bs' ob',ob'=gv bs'→bs'.length≤rs.length+1→Au C X (.cons (.if_ (.p2 .eq (.loc 23) (.lit (.int (.ofNat 1)))) (.cons (.ex (.apnd 6 (.ntp))) .nil) (.nil)) (.cons (.if_ (.p2 .eq (.loc 22) (.lit (.int (.ofNat 1)))) (.cons (.ex (.apnd 5 (.p1 .len (.loc 3)))) (.cons (.if_ (.p2 .ne (.loc 6) (.seq false (.nil))) (.cons (.ex (.tapp (.p2 .idx (.loc 6) (.p1 .neg (.lit (.int (.ofNat 1))))) (.p1 .len (.loc 3)))) .nil) (.nil)) .nil)) (.nil)) (.cons (.aug 3 .add (.p2 .add (.loc 21) (.lit (.str [10])))) .nil))) Q
   (sW v0 S T ob' ov oh H (some (.int x)) (some (.str (Kj r))) (some (.int (.ofNat (cond (Ay r).isSome 1 0)))) (some (.int (.ofNat (cond (colon r) 1 0))))):=fun bs' ob' hb hbl=>by
  have go2:∀G1 oh1 H1 AQ,Sc AQ→G1=cond (colon r) (gf rs [] 0++[[]]) (gf rs [] 0)→oh1=Dq G1.length→H1=Bb G1→Au C X (.cons (.if_ (.p2 .eq (.loc 22) (.lit (.int (.ofNat 1)))) (.cons (.ex (.apnd 5 (.p1 .len (.loc 3)))) (.cons (.if_ (.p2 .ne (.loc 6) (.seq false (.nil))) (.cons (.ex (.tapp (.p2 .idx (.loc 6) (.p1 .neg (.lit (.int (.ofNat 1))))) (.p1 .len (.loc 3)))) .nil) (.nil)) .nil)) (.nil)) (.cons (.aug 3 .add (.p2 .add (.loc 21) (.lit (.str [10])))) .nil)) Q
    (sW v0 S T ob' ov oh1 H1 (some (.int x)) (some (.str (Kj r))) (some (.int (.ofNat (cond (Ay r).isSome 1 0)))) AQ):=fun G1 oh1 H1 AQ e0 e1 e2 e3=>by
   have hG1:∀g∈G1,g.length≤rs.length:=fun g hg=>by
    rw[e1]at hg
    cases hc:colon r with
    |true=>
     rw[hc]at hg
     rcases zt.mp hg with hg |hg
     ·exact I.ng g hg
     ·rw[zG.mp hg];exact zY _
    |false=>rw[hc]at hg;exact I.ng g hg
   have hG1l:G1.length≤rs.length+1:=by
    rw[e1]
    have:=I.nG
    cases colon r with
    |true=>show(gf rs [] 0++[[]]).length≤_;rw[zd];exact z3 this
    |false=>exact z7 this
   refine PF (G:=G1) (p:=T.length) (x:=x) rfl e2 e3 (by rw[I.v,BH];have:=I.nv;lia) (fun g hg=>by have:=hG1 g hg;lia) fun ov' oh' H' AX f0 f1 f2 f3=>?_
   refine eE (by lia) ?_
   have eG':gf (rs++[r]) [] 0=cond (Ay r).isSome (EC G1 T.length) G1:=by rw[eG,e1,I.T];rfl
   refine k r bs' _ ob' ov' oh' H' _ _ _ Zm f0 e0 hr ⟨eT,hb,?_,by rw[eG'];exact f2,by rw[eG'];exact f3,by rw[er];exact hbl,?_,?_,?_⟩
   ·rw[f1,I.v,ew,←I.T]
    cases(Ay r).isSome with
    |true=>exact(CI _ _).symm
    |false=>show gv _=gv (_++[]);rw[zE]
   ·rw[er,ew,zd]
    have:=I.nv
    cases(Ay r).isSome with
    |true=>exact z3 this
    |false=>exact z7 this
   ·rw[er,eG']
    cases(Ay r).isSome with
    |true=>
     show(EC G1 _).length≤_
     obtain h0 |⟨G2,g,h0⟩:G1=[]∨∃G2 g,G1=G2++[g]:=by
      cases hg:G1.reverse with
      |nil=>exact .inl (List.reverse_eq_nil_iff.mp hg)
      |cons g r=>exact .inr ⟨r.reverse,g,by rw[←List.reverse_reverse G1,hg,List.reverse_cons]⟩
     ·rw[h0];exact zY _
     ·rw[h0,BK,zd];rw[h0,zd]at hG1l;exact hG1l
    |false=>exact hG1l
   ·rw[er,eG']
    cases(Ay r).isSome with
    |true=>
     show∀g∈EC G1 _,_
     obtain h0 |⟨G2,g,h0⟩:G1=[]∨∃G2 g,G1=G2++[g]:=by
      cases hg:G1.reverse with
      |nil=>exact .inl (List.reverse_eq_nil_iff.mp hg)
      |cons g r=>exact .inr ⟨r.reverse,g,by rw[←List.reverse_reverse G1,hg,List.reverse_cons]⟩
     ·rw[h0];exact fun _ h=>nomatch h
     ·rw[h0,BK]
      intro g' hg'
      rcases zt.mp hg' with hg' |hg'
      ·exact z7 (hG1 g' (by rw[h0];exact zk _ hg'))
      ·rw[zG.mp hg',zd]
       exact z3 (hG1 g (by rw[h0];exact zi _ (.head _)))
    |false=>exact fun g hg=>z7 (hG1 g hg)
  refine Vd (by rw[I.o,JX];have:=I.nG;lia) (fun e=>?_) fun e=>?_
  ·refine go2 (gf rs [] 0++[[]]) _ _ _ Fp (by rw[e];rfl) ?_ ?_
   ·rw[I.o,I.h,Db,←Lc,zd];rfl
   ·rw[I.h];exact(Hi _ []).symm
  ·exact go2 (gf rs [] 0) _ _ _ Fp (by rw[e];rfl) I.o I.h
 refine s_row hr e (Zj (by rw[I.b,BH];have:=I.nb;lia) (fun _=>?_) fun _=>?_)
 ·exact go (bs++[T.length]) _ (by rw[I.b];exact(CI _ _).symm) (by rw[zd];exact z3 I.nb)
 ·exact go bs _ I.b (z7 I.nb)
theorem turns:∀(xs:List Int) {rs bs:List Nat} {T:Txt} {ob ov oh:List Val} {H:List Cell} {o7 AW AX AQ:Option Val},Inv rs bs T ob ov oh H→rs.length+xs.length≤100→(∀r∈rs,r < 6)→Sc o7→Sc AW→Sc AX→Sc AQ→
  (∀rs' bs' T' ob' ov' oh' H' o7 AW AX AQ,rs'.length=rs.length+xs.length→(∀r∈rs',r < 6)→Inv rs' bs' T' ob' ov' oh' H'→Sc o7→Sc AW→Sc AX→Sc AQ→Q .next (sW v0 S T' ob' ov' oh' H' o7 AW AX AQ))→
  forL (CW [.loc 7]) (Au C X ER) Q (xs.map Val.int) (sW v0 S T ob ov oh H o7 AW AX AQ)
 |[],rs,bs,T,ob,ov,oh,H,o7,AW,AX,AQ,I,hn,h6,c1,c2,c3,c4,hQ=>hQ rs bs T ob ov oh H o7 AW AX AQ rfl h6 I c1 c2 c3 c4
 |x::xs,rs,bs,T,ob,ov,oh,H,o7,AW,AX,AQ,I,hn,h6,_,_,_,_,hQ=>by
  rw[zK]at hn
  show Au C X ER _ (sW v0 S T ob ov oh H (some (.int x)) AW AX AQ)
  refine turn I (by lia) fun r bs' T' ob' ov' oh' H' AW AX AQ c2 c3 c4 hr I'=>?_
  refine turns xs I' (by rw[zd];show rs.length+1+xs.length≤100;lia) (fun q hq=>(zt.mp hq).elim (h6 q) fun hq=>by rw[zG.mp hq];exact hr) Fp c2 c3 c4 fun rs' bs' T' ob' ov' oh' H' o7 AW AX AQ hl h6' I'' c1 c2 c3 c4=>?_
  refine hQ rs' bs' T' ob' ov' oh' H' o7 AW AX AQ ?_ h6' I'' c1 c2 c3 c4
  rw[hl,zd]
  show rs.length+1+xs.length=rs.length+(xs.length+1)
  lia
end
end
section
open L04 Rxm Pu
theorem EL:∀l:List Nat,(flat l).length≤11*l.length
 |[]=>zu _
 |r::l=>by
  have:=Kk r
  have:=EL l
  show(Ae r++flat l).length≤11*(l.length+1)
  rw[zd];lia
theorem Ia{H:List Cell}:∀(l:List (List Nat)) (k:Nat),(∀i g,l[i]? =some g→H[k+i]? =some (.Ak (gv g)))→Dw (EP H) ((List.range' k l.length).map Val.hl)=some (gv (l.filterMap List.head?))
 |[],_,_=>rfl
 |g::l,k,h=>by
  have h0:=h 0 g rfl
  have ih:=Ia (H:=H) l (k+1) fun i g' hg=>by
   have:=h (i+1) g' hg
   rw[jM];exact this
  rw[zK,List.range'_succ]
  rw[JK]at h0
  show((SY H[k]?).bind fun xs=>some xs.head?).bind (fun o=>(Dw (EP H) ((List.range' (k+1) l.length).map Val.hl)).bind fun l=>some (o.toList++l))=_
  rw[h0,ih]
  cases g with
  |nil=>rfl
  |cons p g=>rfl
theorem Q4(n k:Nat):(Dq n).drop k=(List.range' k (n - k)).map Val.hl:=by
 unfold Dq
 rw[←List.map_drop]
 congr 1
 refine List.ext_getElem? fun i=>?_
 rw[List.getElem?_drop]
 by_cases h:k+i < n
 ·rw[List.getElem?_range h,List.getElem?_range' (by lia)]
  simp
 ·rw[Jy (by rw[List.length_range];lia),Jy (by rw[List.length_range'];lia)]
theorem Q3{G:List (List Nat)}{n:Nat}:Dw (EP (Bb G)) ((Dq G.length).drop (G.length - n))=some (gv ((G.drop (G.length - n)).filterMap List.head?)):=by
 rw[Q4]
 have h:(G.drop (G.length - n)).length=G.length - (G.length - n):=jC ..
 rw[←h]
 refine Ia _ _ fun i g hg=>?_
 rw[List.getElem?_drop]at hg
 unfold Bb
 rw[Ju,hg];rfl
theorem X6(l:List Nat):(gv l).reverse=gv l.reverse:=by unfold gv;rw[List.map_reverse]
theorem I4{p:Int→Option Bool}{q:Nat→Bool}(h:∀x:Nat,p (.ofNat x)=some (q x)):∀l:List Nat,Dw (HG p) (gv l)=some (gv (l.filter q))
 |[]=>rfl
 |x::l=>by
  show((p (.ofNat x)).bind fun b=>some (cond b (some (.int (.ofNat x))) none)).bind (fun o=>(Dw (HG p) (gv l)).bind fun l=>some (o.toList++l))=_
  rw[h x,I4 h l,List.filter_cons]
  cases q x <;>rfl
theorem NC(bs l:List Nat):Dw (HG fun x=>(CJ x (gv bs)).bind fun r=>some (!r)) (gv l)=some (gv (l.filter fun x=> !bar bs x)):=
 I4 (fun x=>by show(CJ (.ofNat x) (gv bs)).bind _=_;rw[DW];rfl) l
theorem LP:∀{l:List Nat},(∀x∈l,x < AJ)→Ex (gv l)=true
 |[],_=>rfl
 |x::l,h=>by
  show cond (Nat.blt x AJ) (Ex (gv l)) false=true
  rw[CH (h x (.head _))]
  exact LP fun y hy=>h y (.tail _ hy)
theorem Q5(x:Nat):∀{l:List Nat},x∈l→Ld (.ofNat x) (gv l)=idx x l
 |[],h=>nomatch h
 |y::l,h=>by
  show cond (Nat.beq y x) 0 (Ld (.ofNat x) (gv l)+1)=cond (Nat.beq y x) 0 (idx x l+1)
  cases e:Nat.beq y x with
  |true=>rfl
  |false=>
   rcases zI.mp h with h |h
   ·rw[h,jA]at e;cases e
   ·rw[Q5 x h]
theorem Qk{x:Nat}:∀{l:List Nat},x∈l→bar l x=true
 |[],h=>nomatch h
 |y::l,h=>by
  show cond (Nat.beq y x) true (bar l x)=true
  cases e:Nat.beq y x with
  |true=>rfl
  |false=>
   rcases zI.mp h with h |h
   ·rw[h,jA]at e;cases e
   ·exact Qk h
theorem Wp{N:Nat}:∀(rs:List Nat) (G:List (List Nat)) (p:Nat),(∀g∈G,∀x∈g,x < N)→p+(flat rs).length≤N→∀g∈gf rs G p,∀x∈g,x < N
 |[],_,_,h,_=>h
 |r::rs,G,p,h,hN=>by
  have hr:=Bt r
  have hl:(flat (r::rs)).length=(Ae r).length+(flat rs).length:=zd
  refine Wp rs (gs r G p) (p+(Ae r).length) ?_ (by lia)
  have h1:∀g∈cond (colon r) (G++[[]]) G,∀x∈g,x < N:=by
   cases colon r with
   |true=>
    intro g hg
    rcases zt.mp hg with hg |hg
    ·exact h g hg
    ·rw[zG.mp hg];exact fun _ h=>nomatch h
   |false=>exact h
  unfold gs
  generalize cond (colon r) (G++[[]]) G=G1 at h1
  cases(Ay r).isSome with
  |false=>exact h1
  |true=>
   show∀g∈EC G1 p,_
   obtain h0 |⟨G2,g,h0⟩:G1=[]∨∃G2 g,G1=G2++[g]:=by
    cases hg:G1.reverse with
    |nil=>exact .inl (List.reverse_eq_nil_iff.mp hg)
    |cons g r=>exact .inr ⟨r.reverse,g,by rw[←List.reverse_reverse G1,hg,List.reverse_cons]⟩
   ·rw[h0];exact fun _ h=>nomatch h
   ·rw[h0,BK]
    intro g' hg'
    rcases zt.mp hg' with hg' |hg'
    ·exact h1 g' (by rw[h0];exact zk _ hg')
    ·rw[zG.mp hg']
     intro x hx
     rcases zt.mp hx with hx |hx
     ·exact h1 g (by rw[h0];exact zi _ (.head _)) x hx
     ·rw[zG.mp hx];lia
theorem bk{rs:List Nat}{n x:Nat}(h:x∈hd n (gf rs [] 0)):x < (flat rs).length:=by
 unfold hd at h
 have h:=List.mem_reverse.mp h
 obtain⟨g,hg,e⟩:=List.mem_filterMap.mp h
 exact Wp rs [] 0 (fun _ h=>nomatch h) (Jn (jr _)) g (List.mem_of_mem_drop hg) x (List.mem_of_mem_head? e)
theorem Q1(n:Nat)(G:List (List Nat)):(hd n G).length≤n:=by
 unfold hd
 rw[List.length_reverse]
 refine zp (List.length_filterMap_le ..) ?_
 rw[jC];lia
theorem FD:∀(rs:List Nat) (p:Nat),(words rs p).length≤rs.length
 |[],_=>zu _
 |r::rs,p=>by
  have:=FD rs (p+(Ae r).length)
  show(cond (Ay r).isSome (p::words rs (p+(Ae r).length)) (words rs (p+(Ae r).length))).length≤rs.length+1
  cases(Ay r).isSome with
  |true=>exact z3 this
  |false=>exact z7 this
theorem Ik(b:Nat→Bool)(rs:List Nat):(order b rs).length≤5+rs.length:=by
 have h1:=Q1 5 (gf rs [] 0)
 have h2:=FD rs 0
 unfold order
 cases free b (hd 5 (gf rs [] 0))with
 |none=>show(hd 5 (gf rs [] 0)++(words rs 0).take 1).length≤_;rw[zd,ji];lia
 |some f=>
  show(List.take _ (hd 5 (gf rs [] 0))++(words rs 0).filter _).length≤_
  rw[zd,ji]
  have:=List.length_filter_le (fun x=>Nat.blt f x) (words rs 0)
  lia
theorem Kq{l:List Nat}{k:Nat}:slice (gv l) (.ofNat 0) (.ofNat k)=gv (l.take k):=by
 show((gv l).take (min k (gv l).length)).drop (min 0 (gv l).length)=_
 rw[Jj,jZ,←List.take_take,List.take_length]
 unfold gv
 rw[List.map_take]
theorem Wa{rx:Rx}{a b:List Nat}(h:a.length+b.length≤AJ):Bu rx .add (.seq false (gv a)) (.seq false (gv b))=some (.seq false (gv (a++b))):=by
 show cond (Nat.ble ((gv a).length+(gv b).length) AJ) _ _=_
 rw[BH,BH,zD h]
 unfold gv
 rw[jh];rfl
section
variable {rx:Rx}{d:Nat}{rs bs:List Nat}{K:Val→List (Option Val)→List Cell→Prop}{X:AN→List (Option Val)→List Cell→Prop}{C:Cfg}{Y:AN→St→Prop}{Q:Out→St→Prop}
noncomputable abbrev sO(ev gr br:List Val)(l3 l4:Option LV)(H:List Cell):St:=⟨[some (.v (.seq false ev)),some (.v (.seq false gr)),some (.v (.seq false br)),l3,l4],[],[],H⟩
noncomputable def oB:Ss:=.cons (.asg 4 (.comp 1 (.loc 3) 2)) (.cons (.if_ (.p2 .eq (.loc 4) (.seq false (.nil))) (.cons (.ret (.p2 .add (.loc 3) (.p3 .slc (.loc 0) (.lit .none) (.lit (.int (.ofNat 1)))))) .nil) (.nil)) (.cons (.ret (.p2 .add (.p3 .slc (.loc 3) (.lit .none) (.p2 .add (.lidx (.loc 3) (.p2 .idx (.loc 4) (.lit (.int (.ofNat 0))))) (.lit (.int (.ofNat 1))))) (.comp 2 (.loc 0) 4))) .nil))
theorem ff{o:Option Cell}{xs:List Val}{P:List Val→Prop}(e:o=some (.Ak xs))(k:P xs):(match(generalizing:=false) o with |some (.Ak xs)=>P xs |_=>False):=by rw[e];exact k
theorem Pe{H:List Cell}{n:Nat}{l ws gr:List Nat}{gv':List Val}(hH:H[n]? =some (.Ak (gv l)))(hsm:∀x∈l,x < AJ)(hl:l.length≤1000)(hw:ws.length≤1000)
  (hQ:∀l3 l4,Q (.ret (.v (.seq false (gv (match free (bar bs) l with |none=>l++ws.take 1 |some f=>l.take (idx f l+1)++ws.filter fun x=>Nat.blt f x))))) (sO (gv ws) gv' (gv bs) l3 l4 H)):
  Au C Y oB Q (sO (gv ws) gv' (gv bs) (some (.v (.hl n))) none H):=by
 have hLIM:=Bk
 have hlook:∀{σ:St},σ.heap=H→Cf σ (.v (.hl n))=some (.seq false (gv l)):=fun{σ} e=>by
  show(match σ.heap[n]? with |some (.Ak xs)=>some (Val.seq false xs) |_=>none)=_
  rw[e,hH]
 have hf:=NC bs l
 have hff:=FK (bar:=bar bs) l
 rw[hff]at hQ
 conv=>whnf
 refine Bv (hlook (σ:=sO (gv ws) gv' (gv bs) (some (.v (.hl n))) none H) rfl) ?_
 conv=>whnf
 refine Bv hf ?_
 cases hF:l.filter fun x=> !bar bs x with
 |nil=>
  rw[hF]at hQ
  conv=>whnf
  refine Bv (hlook rfl) ?_
  conv=>whnf
  have ea:Bu C.rx .add (.seq false (gv l)) (.seq false (slice (gv ws) (.ofNat 0) (.ofNat 1)))=some (.seq false (gv (l++ws.take 1))):=by rw[Kq];exact Wa (by rw[ji];lia)
  refine Bv ea ?_
  conv=>whnf
  exact hQ _ _
 |cons f F=>
  rw[hF]at hQ
  have hin:f∈l:=by
   have:f∈l.filter fun x=> !bar bs x:=by rw[hF];exact .head _
   exact(z9.mp this).1
  have hfw:=I4 (p:=fun x=>some (ltI (.ofNat f) x)) (q:=fun x=>Nat.blt f x) (fun x=>rfl) ws
  have e1:=Q5 f hin
  have et:Lf H n=true:=by unfold Lf;rw[hH]
  have eb:CJ (.ofNat f) (gv l)=some true:=by rw[DW,Qk hin]
  replace hQ:∀l3 l4,Q (.ret (.v (.seq false (gv (l.take (idx f l+1)++ws.filter fun x=>Nat.blt f x))))) (sO (gv ws) gv' (gv bs) l3 l4 H):=hQ
  rw[←e1]at hQ
  conv=>whnf
  refine AL et ?_
  conv=>whnf
  refine ff hH ?_
  conv=>whnf
  refine AL (by rw[BH,zD hl,LP hsm];rfl) ?_
  conv=>whnf
  refine Bv eb ?_
  conv=>whnf
  refine Bv (hlook rfl) ?_
  conv=>whnf
  have ea:Bu C.rx .add (.seq false (slice (gv l) (.ofNat 0) (.ofNat (Ld (.ofNat f) (gv l)+1)))) (.seq false (gv (ws.filter fun x=>Nat.blt f x)))=some (.seq false (gv (l.take (Ld (.ofNat f) (gv l)+1)++ws.filter fun x=>Nat.blt f x))):=by
   rw[Kq]
   have:=List.length_filter_le (fun x=>Nat.blt f x) ws
   exact Wa (by rw[ji];lia)
  refine Bv hfw ?_
  conv=>whnf
  refine Bv ea ?_
  conv=>whnf
  exact hQ _ _
theorem Pf(hn:rs.length≤100)(hK:K (.seq false (gv (order (bar bs) rs))) [] (Bb (gf rs [] 0)++[.Ak (gv (hd 5 (gf rs [] 0)))])):
  A8 (PQ rx) (d+1) 7 [] [.seq false (gv (words rs 0)),.seq false (Dq (gf rs [] 0).length),.seq false (gv bs)] (Bb (gf rs [] 0)) K X:=by
 have hLIM:=Bk
 have hfl:=EL rs
 have h1:slice (Dq (gf rs [] 0).length) (Int.negSucc 4) (Int.ofNat (Dq (gf rs [] 0).length).length)=(Dq (gf rs [] 0).length).drop ((gf rs [] 0).length - 5):=by
  show((Dq (gf rs [] 0).length).take (min (Dq (gf rs [] 0).length).length (Dq (gf rs [] 0).length).length)).drop ((Dq (gf rs [] 0).length).length - (4+1))=_
  rw[Nat.min_self,List.take_length,JX]
 have h2:KR (Bb (gf rs [] 0)) 0 (.seq false (Dq (gf rs [] 0).length)) (slice (Dq (gf rs [] 0).length) (Int.negSucc 4) (Int.ofNat (Dq (gf rs [] 0).length).length))=some (gv (((gf rs [] 0).drop ((gf rs [] 0).length - 5)).filterMap List.head?)):=by
  show Dw (EP (Bb (gf rs [] 0))) (slice (Dq (gf rs [] 0).length) (Int.negSucc 4) (Int.ofNat (Dq (gf rs [] 0).length).length))=_
  rw[h1];exact Q3 (G:=gf rs [] 0) (n:=5)
 have hH:(Bb (gf rs [] 0)++[Cell.Ak (gv (hd 5 (gf rs [] 0)))])[(Bb (gf rs [] 0)).length]? =some (.Ak (gv (hd 5 (gf rs [] 0)))):=by
  rw[zM (zu _),jl];rfl
 have h3:=Q1 5 (gf rs [] 0)
 have h4:=FD rs 0
 have k:=Pe (bs:=bs) (ws:=words rs 0) (C:=⟨rx,A8 (PQ rx) d,0,11⟩) (Y:=Dv X) (Q:=Ef K) (gv':=Dq (gf rs [] 0).length) (gr:=[]) hH (fun x hx=>by have:=bk hx;lia) (by lia) (by lia) (fun l3 l4=>by
  conv=>whnf
  exact hK)
 have er:(gv (List.filterMap List.head? (List.drop ((gf rs [] 0).length - 5) (gf rs [] 0)))).reverse=gv (hd 5 (gf rs [] 0)):=by rw[X6];rfl
 rw[←er]at k
 conv=>whnf
 refine Bv h2 ?_
 conv=>whnf
 conv at k=>whnf
 exact k
end
end
section
open L04 Rxm Pu
theorem I5{o:Option Cell}{fs:List (Option Val)}{P:List (Option Val)→Prop}(e:o=some (.Ao fs))(k:P fs):(match(generalizing:=false) o with |some (.Ao fs)=>P fs |_=>False):=by rw[e];exact k
theorem Ku:∀t:Txt,Bo t t=true
 |[]=>rfl
 |c::t=>by
  show cond (Nat.beq c c) (Bo t t) false=true
  rw[FH rfl];exact Ku t
theorem EH(i:Int):FJ i i=true:=by cases i <;>exact jA _
theorem Km:∀g:List Nat,CV (gv g) (gv g)=true
 |[]=>rfl
 |x::g=>by
  show cond (Nat.beq x x) (CV (gv g) (gv g)) false=true
  rw[FH rfl];exact Km g
theorem Ko:∀g:List Nat,B5 (gv g) (gv g)=some true
 |[]=>rfl
 |x::g=>by
  show cond (CV (gv (x::g)) (gv (x::g))) (some true) none=_
  rw[Km];rfl
inductive FS(T:Txt):List (Option Val)→Prop
 |zero:FS T (fld 4 8 T 0 none none none none none none none)
 |one {g:List Nat} {c:Nat} (hg:g.length≤100000):FS T (fld 4 8 T 1 (some (.seq false (gv g))) (some (.int (.ofNat c))) none none none none none)
section
variable {rx:Rx}{d:Nat}{T:Txt}{K:Val→List (Option Val)→List Cell→Prop}{X:AN→List (Option Val)→List Cell→Prop}{h:List Cell}
theorem Pv{fs:List (Option Val)}(F:FS T fs):∃v,(∀(d:Nat) (K:Val→List (Option Val)→List Cell→Prop) (X:AN→List (Option Val)→List Cell→Prop) (h:List Cell) (P:Nat),h[P]? =some (.Ao fs)→K (.seq false v) [] h→A8 (PQ rx) (d+1) 5 [] [.obj P] h K X)∧B5 v v=some true∧v.all Ci=true:=by
 cases F with
 |zero=>
  refine⟨[.str T],fun d K X h P hP hK=>?_,?_⟩
  ·conv=>whnf
   refine I5 hP ?_
   conv=>whnf
   refine I5 hP ?_
   conv=>whnf
   exact hK
  ·refine⟨?_,rfl⟩
   show cond (cond (Bo T T) true false) (some true) none=_
   rw[Ku];rfl
 |@one g c hg=>
  refine⟨.str T::.int (.ofNat 1)::.int (.ofNat c)::gv g,fun d K X h P hP hK=>?_,?_⟩
  ·have ea:Bu rx .add (.seq false [.str T,.int (.ofNat 1),.int (.ofNat c)]) (.seq false (gv g))=some (.seq false (.str T::.int (.ofNat 1)::.int (.ofNat c)::gv g)):=by
    have hLIM:=Bk
    show cond (Nat.ble (3+(gv g).length) AJ) _ _=_
    rw[BH,zD (by lia)];rfl
   conv=>whnf
   refine I5 hP ?_
   conv=>whnf
   refine I5 hP ?_
   conv=>whnf
   refine I5 hP ?_
   conv=>whnf
   refine I5 hP ?_
   conv=>whnf
   refine I5 hP ?_
   conv=>whnf
   refine Bv ea ?_
   conv=>whnf
   exact hK
  ·refine⟨?_,?_⟩
   rotate_left
   ·show(gv g).all Ci=true
    refine zT.mpr fun x hx=>?_
    obtain⟨y,_,e⟩:=zA.mp hx
    rw[←e];rfl
   show cond (cond (Bo T T) (cond (FJ (.ofNat 1) (.ofNat 1)) (cond (FJ (.ofNat c) (.ofNat c)) (CV (gv g) (gv g)) false) false) false) (some true) none=_
   rw[Ku,EH,EH,Km];rfl
theorem Ue{u:Txt}{c:Nat}(h:T=u++[c]):Bu rx .idx (.str T) (.int (Int.negSucc 0))=some (.str [c]):=by
 have e:Mi T (Int.negSucc 0)=some c:=by rw[h];exact Qb u c
 show(Mi T (Int.negSucc 0)).bind _=_
 rw[e];rfl
theorem LM(hT:∃u,T=u++[10])(hK:K .none (fld 4 8 T 0 none none none none none none none) h):
  A8 (PQ rx) (d+1) 1 [some (.int (.ofNat 4)),some (.int (.ofNat 8)),none,none,none,none,none,none,none,none,none] [.str T] h K X:=by
 obtain⟨u,hT⟩:=hT
 have hl:T.length≠0:=by rw[hT,zd];exact jL _
 conv=>whnf
 refine BI (B3 hl) ?_
 conv=>whnf
 refine Bv (Ue hT) ?_
 conv=>whnf
 exact hK
theorem Qw(hE:Ends T)(h8:Bq 128 T=true)(hl:T.length≤50000)(hK:∀v fs,Ci v=true→FS T fs→K v fs h):
  A8 (PQ rx) (d+2) 4 (fld 4 8 T 0 none none none none none none none) [] h K X:=by
 have hg:(fQ (fin T)).length≤100000:=by
  have h1:=Mt (T.map CP) GF
  rw[jb]at h1
  have h1:(fin T).gd.length≤1+T.length:=h1
  unfold fQ
  cases Nat.beq (B8 (fin T)) 0 with
  |true=>show(fin T).gd.length≤_;lia
  |false=>show((fin T).gd++[(fin T).ln]).length≤_;rw[zd];show(fin T).gd.length+1≤_;lia
 have k:=hK (.int (.ofNat (B8 (fin T)))) _ rfl (.one (g:=fQ (fin T)) (c:=B8 (fin T)) hg)
 conv=>whnf
 refine M0 (d:=d) hE h8 (by lia) ?_
 conv=>whnf
 exact k
end
end
section
open L04 Rxm Pu
noncomputable abbrev sX(v0:Val)(S:Int)(T:Txt)(bs ws:List Nat)(gr:List Val)(o7 AW AX AQ:Option Val)(o8 o9 Gj Gk Dr DZ CT D0 De Df CX C9 CU:Option Val)(H:List Cell):St:=
 ⟨[some (.v v0),some (.v (.int S)),some (.v (.seq false Px)),some (.v (.str T)),some (.v (.seq false (gv bs))),some (.v (.seq false (gv ws))),some (.v (.seq false gr)),o7.map LV.v,o8.map LV.v,o9.map LV.v,Gj.map LV.v,Gk.map LV.v,Dr.map LV.v,DZ.map LV.v,CT.map LV.v,D0.map LV.v,De.map LV.v,Df.map LV.v,CX.map LV.v,C9.map LV.v,CU.map LV.v,AW.map LV.v,AX.map LV.v,AQ.map LV.v],[],[],H⟩
theorem SS:∀l:List Int,∃S,sumOf (l.map Val.int)=some S
 |[]=>⟨0,rfl⟩
 |i::l=>by
  obtain⟨S,e⟩:=SS l
  refine⟨i+S,?_⟩
  show(sumOf (l.map Val.int)).bind _=_
  rw[e];rfl
theorem eZ{rx:Rx}{l:List Val}{S:Int}(h:sumOf l=some S):Cb rx .sum (.seq false l)=some (.int S):=by
 show(sumOf l).bind _=_
 rw[h];rfl
theorem T4{rx:Rx}(n:Nat):∃y,Bu rx .idx (.seq false [.int (.ofNat 0),.int (.ofNat 4),.int (.ofNat 2),.int (.ofNat 1)]) (.int (Int.fmod (.ofNat n) (.ofNat 4)))=some (.int y):=by
 rw[XZ]
 exact PY (P:=fun m=>∃y,Bu rx .idx (.seq false [.int (.ofNat 0),.int (.ofNat 4),.int (.ofNat 2),.int (.ofNat 1)]) (.int (.ofNat m))=some (.int y)) (n:=4) ⟨⟨⟨⟨trivial,_,rfl⟩,_,rfl⟩,_,rfl⟩,_,rfl⟩ _ (Nat.mod_lt n (by decide))
theorem Vm{l:List Int}{k:Nat}:slice (l.map Val.int) (.ofNat 0) (.ofNat k)=(l.take k).map Val.int:=by
 show((l.map Val.int).take (min k (l.map Val.int).length)).drop (min 0 (l.map Val.int).length)=_
 rw[Jj,jZ,←List.take_take,List.take_length,List.map_take]
theorem Wc{rx:Rx}{a b:List Val}(h:a.length+b.length≤AJ):Bu rx .add (.seq false a) (.seq false b)=some (.seq false (a++b)):=by
 show cond (Nat.ble (a.length+b.length) AJ) _ _=_
 rw[zD h];rfl
section
variable {C:Cfg}{N:St→Prop}
theorem QZ{o:List (List Val)}{q:Option Val}{r:List (Option LV)}{l:List (Option Val)}(h:fz o r=some l):fz o (q.map LV.v::r)=some (q::l):=by
 cases q with
 |none=>show(match fz o r with |some l=>some (none::l) |none=>none)=_;rw[h]
 |some x=>exact EN rfl h
theorem Ka:∀l:List (Option Val),B1 l=l.map (Option.map LV.v)
 |[]=>rfl
 |none::r=>zy (none::·) (Ka r)
 |some x::r=>zy (some (LV.v x)::·) (Ka r)
theorem T6{v0:Val}{S:Int}{T:Txt}{bs ws:List Nat}{gr:List Val}{H:List Cell}{o7 AW AX AQ:Option Val}(k:N (sX v0 S T bs ws gr o7 AW AX AQ none none none none none none none none none none none none none H)):
  X2 N (sW v0 S T (gv bs) (gv ws) gr H o7 AW AX AQ):=by
 have n:∀{r:List (Option LV)} {l:List (Option Val)},fz [Px,gv bs,gv ws,gr] r=some l→fz [Px,gv bs,gv ws,gr] (none::r)=some (none::l):=fun h=>QZ (q:=none) h
 refine Bv (EN rfl (EN rfl (EN rfl (EN rfl (EN rfl (EN rfl (EN rfl (QZ (n (n (n (n (n (n (n (n (n (n (n (n (n (QZ (QZ (QZ rfl)))))))))))))))))))))))) ?_
 show N ⟨B1 _,[],[],H⟩
 rw[Ka];exact k
theorem SA{xs:List Int}(hl:xs.length≤63)(hN:∀S rs bs T H gr o7 AW AX AQ,0 < rs.length→rs.length≤13→(∀r∈rs,r < 6)→Inv rs bs T (gv bs) (gv (words rs 0)) gr H→Sc o7→Sc AW→Sc AX→Sc AQ→N (sW (.seq false (xs.map .int)) S T (gv bs) (gv (words rs 0)) gr H o7 AW AX AQ)):
  Au C NX Vi (Ky N) ⟨start [.seq false (xs.map .int)] Us,[],[],[]⟩:=by
 have hLIM:=Bk
 obtain⟨S,hS⟩:=SS xs
 obtain⟨y,hy⟩:=T4 (rx:=C.rx) (xs.map Val.int).length
 have e2:(xs.take 12).map Val.int++[.int y]=(xs.take 12++[y]).map Val.int:=by rw[jh];rfl
 have h12:(xs.take 12).length≤12:=by rw[ji];exact Nat.min_le_left _ _
 have e3:(xs.take 12++[y]).length=(xs.take 12).length+1:=zd
 have ea:Bu C.rx .add (.seq false (slice (xs.map .int) (.ofNat 0) (.ofNat 12))) (.seq false [.int y])=some (.seq false ((xs.take 12++[y]).map .int)):=by
  rw[Vm,←e2]
  exact Wc (by rw[jb];show _+1≤AJ;lia)
 conv=>whnf
 refine Bv (eZ hS) ?_
 conv=>whnf
 refine Bv hy ?_
 conv=>whnf
 refine Bv ea ?_
 refine turns (C:=C) (X:=NX) (S:=S) (v0:=.seq false (xs.map .int)) (xs.take 12++[y]) (rs:=[]) (bs:=[]) (T:=[]) (ob:=[]) (ov:=[]) (oh:=[]) (H:=[]) (o7:=none) (AW:=none) (AX:=none) (AQ:=none) ⟨rfl,rfl,rfl,rfl,rfl,zu _,zu _,zu _,fun _ h=>nomatch h⟩ (by rw[e3];show 0+_≤100;lia) (fun _ h=>nomatch h) Iy Iy Iy Iy fun rs' bs' T' ob' ov' oh' H' o7 AW AX AQ hl h6 I c1 c2 c3 c4=>?_
 have hl:rs'.length=0+(xs.take 12++[y]).length:=hl
 rw[e3]at hl
 have hb:=I.b
 have hv:=I.v
 subst hb;subst hv
 exact hN S rs' bs' T' H' oh' o7 AW AX AQ (by lia) (by lia) h6 I c1 c2 c3 c4
end
end
section
open L04 Rxm Pu
noncomputable abbrev C8(rx:Rx):Cfg:=⟨rx,A8 (PQ rx) 8,0,11⟩
theorem CZ{H ts:List Cell}{c:Cell}:(H++(c::ts))[H.length]? =some c:=by
 rw[zM (zu _),jl];rfl
theorem Cy{H ts:List Cell}{c c':Cell}:(H++(c::ts)).set H.length c'=H++(c'::ts):=by
 rw[List.set_append_right _ _ (zu _),jl];rfl
theorem Nt{H ts:List Cell}{fs:List (Option Val)}:Ra (H++(.Ao fs::ts)) H.length=true:=by unfold Ra;rw[CZ]
theorem Ug{b:Nat→Bool}{l:List Nat}:(l.filter b).length≤l.length:=List.length_filter_le ..
section
variable {rx:Rx}{X:AN→St→Prop}{Q:Out→St→Prop}{rest:Ss}{l0:List Val}{S:Int}{T:Txt}{bs ws O:List Nat}{gr:List Val}{o7 AW AX AQ o8 o9 Gj Gk Dr DZ CT D0 De Df CX C9 CU:Option Val}{H ts:List Cell}{fs:List (Option Val)}
theorem Ve{rs:List Nat}(hn:rs.length≤100)(k:Au (C8 rx) X rest Q (sX (.seq false l0) S T bs (words rs 0) (Dq (gf rs [] 0).length) o7 AW AX AQ (some (.seq false (gv (order (bar bs) rs)))) o9 Gj Gk Dr DZ CT D0 De Df CX C9 CU (Bb (gf rs [] 0)++[.Ak (gv (hd 5 (gf rs [] 0)))]))):
  Au (C8 rx) X (.cons (.asg 8 (.fcall 7 (.cons (.loc 5) (.cons (.loc 6) (.cons (.loc 4) .nil))))) rest) Q (sX (.seq false l0) S T bs (words rs 0) (Dq (gf rs [] 0).length) o7 AW AX AQ o8 o9 Gj Gk Dr DZ CT D0 De Df CX C9 CU (Bb (gf rs [] 0))):=by
 show A8 (PQ rx) (7+1) 7 [] [.seq false (gv (words rs 0)),.seq false (Dq (gf rs [] 0).length),.seq false (gv bs)] (Bb (gf rs [] 0)) _ _
 exact Pf hn k
theorem eF(hO:O.length≤1000)(k:Au (C8 rx) X rest Q (sX (.seq false l0) S T bs ws gr o7 AW AX AQ (some (.seq false (gv O))) (some (.seq false (.none::gv (O.filter fun x=> !bar bs x)))) Gj Gk Dr DZ CT D0 De Df CX C9 CU H)):
  Au (C8 rx) X (.cons (.asg 9 (.p2 .add (.seq false (.cons (.lit .none) .nil)) (.comp 1 (.loc 8) 4))) rest) Q (sX (.seq false l0) S T bs ws gr o7 AW AX AQ (some (.seq false (gv O))) o9 Gj Gk Dr DZ CT D0 De Df CX C9 CU H):=by
 have hLIM:=Bk
 have hf:=NC bs O
 have ea:Bu rx .add (.seq false [.none]) (.seq false (gv (O.filter fun x=> !bar bs x)))=some (.seq false (.none::gv (O.filter fun x=> !bar bs x))):=Wc (by
  have:=Ug (b:=fun x=> !bar bs x) (l:=O)
  rw[BH];show 1+_≤_;lia)
 conv=>whnf
 refine Bv hf ?_
 conv=>whnf
 refine Bv ea ?_
 exact k
theorem eI(k:Au (C8 rx) X rest Q (sX (.seq false l0) S T bs ws gr o7 AW AX AQ o8 o9 (some (.obj H.length)) Gk Dr DZ CT D0 De Df CX C9 CU (H++[.Ao [some (.int (.ofNat 4)),some (.int (.ofNat 8)),none,none,none,none,none,none,none,none,none]]))):
  Au (C8 rx) X (.cons (.asg 10 (.new (.cons (.lit (.int (.ofNat 4))) (.cons (.lit (.int (.ofNat 8))) .nil)))) rest) Q (sX (.seq false l0) S T bs ws gr o7 AW AX AQ o8 o9 Gj Gk Dr DZ CT D0 De Df CX C9 CU H):=by
 have e:=Cy (H:=H) (ts:=[]) (c:=.taken) (c':=.Ao [some (.int (.ofNat 4)),some (.int (.ofNat 8)),none,none,none,none,none,none,none,none,none])
 rw[←e]at k
 conv=>whnf
 exact k
theorem eJ(hT:∃u,T=u++[10])(k:Au (C8 rx) X rest Q (sX (.seq false l0) S T bs ws gr o7 AW AX AQ o8 o9 (some (.obj H.length)) Gk Dr DZ CT D0 De Df CX C9 CU (H++[.Ao (fld 4 8 T 0 none none none none none none none)]))):
  Au (C8 rx) X (.cons (.ex (.mcall 1 10 (.cons (.loc 3) .nil))) rest) Q (sX (.seq false l0) S T bs ws gr o7 AW AX AQ o8 o9 (some (.obj H.length)) Gk Dr DZ CT D0 De Df CX C9 CU (H++[.Ao [some (.int (.ofNat 4)),some (.int (.ofNat 8)),none,none,none,none,none,none,none,none,none]])):=by
 have e:=Cy (H:=H) (ts:=[]) (c:=.taken) (c':=.Ao (fld 4 8 T 0 none none none none none none none))
 have e2:=Cy (H:=H) (ts:=[]) (c:=.Ao [some (.int (.ofNat 4)),some (.int (.ofNat 8)),none,none,none,none,none,none,none,none,none]) (c':=.taken)
 rw[←e,←e2]at k
 conv=>whnf
 refine AL Nt ?_
 conv=>whnf
 refine I5 CZ ?_
 refine LM (d:=7) hT ?_
 conv=>whnf
 exact k
theorem Zi(hE:Ends T)(h8:Bq 128 T=true)(hl:T.length≤50000)(k:∀fs,FS T fs→Au (C8 rx) X rest Q (sX (.seq false l0) S T bs ws gr o7 AW AX AQ o8 o9 (some (.obj H.length)) Gk Dr DZ CT D0 De Df CX C9 CU (H++[.Ao fs]))):
  Au (C8 rx) X (.cons (.if_ (.p2 .eq (.p2 .mod (.p1 .len (.loc 0)) (.lit (.int (.ofNat 3)))) (.lit (.int (.ofNat 1)))) (.cons (.ex (.mcall 4 10 (.nil))) .nil) (.nil)) rest) Q (sX (.seq false l0) S T bs ws gr o7 AW AX AQ o8 o9 (some (.obj H.length)) Gk Dr DZ CT D0 De Df CX C9 CU (H++[.Ao (fld 4 8 T 0 none none none none none none none)])):=by
 cases e:FJ (Int.fmod (.ofNat l0.length) (.ofNat 3)) (.ofNat 1)with
 |false=>
  conv=>whnf
  refine BI e ?_
  exact k _ .zero
 |true=>
  conv=>whnf
  refine AL e ?_
  conv=>whnf
  refine AL Nt ?_
  conv=>whnf
  refine I5 CZ ?_
  refine Qw (d:=6) hE h8 hl fun v fs hv F=>?_
  have e:=Cy (H:=H) (ts:=[]) (c:=.taken) (c':=.Ao fs)
  have e2:=Cy (H:=H) (ts:=[]) (c:=.Ao (fld 4 8 T 0 none none none none none none none)) (c':=.taken)
  have k:=k fs F
  rw[←e,←e2]at k
  conv=>whnf
  refine AL hv ?_
  exact k
end
end
section
open L04 Rxm Pu
section
variable {rx:Rx}{X:AN→St→Prop}{Q:Out→St→Prop}{N:St→Prop}{rest:Ss}{l0 v:List Val}{S:Int}{T:Txt}{bs ws O:List Nat}{gr:List Val}{o7 AW AX AQ o8 o9 Gj Gk Dr DZ CT D0 De Df CX C9 CU:Option Val}{H ts:List Cell}{fs:List (Option Val)}
noncomputable def WW(rx:Rx)(fs:List (Option Val))(v:List Val):Prop:=∀(d:Nat) (K:Val→List (Option Val)→List Cell→Prop) (X:AN→List (Option Val)→List Cell→Prop) (h:List Cell) (P:Nat),h[P]? =some (.Ao fs)→K (.seq false v) [] h→A8 (PQ rx) (d+1) 5 [] [.obj P] h K X
noncomputable def kI(C:Cfg)(fs:List (Option Val))(v:List Val):Prop:=∀(K:Val→List (Option Val)→List Cell→Prop) (X:AN→List (Option Val)→List Cell→Prop) (h:List Cell) (P:Nat),h[P]? =some (.Ao fs)→K (.seq false v) [] h→C.call 5 [] [.obj P] h K X
theorem Sy{C:Cfg}(hs:kI C fs v)(k:Au C X rest Q (sX (.seq false l0) S T bs ws gr o7 AW AX AQ o8 o9 (some (.obj H.length)) (some (.seq false v)) Dr DZ CT D0 De Df CX C9 CU (H++(.Ao fs::ts)))):
  Au C X (.cons (.asg 11 (.fcall 5 (.cons (.loc 10) .nil))) rest) Q (sX (.seq false l0) S T bs ws gr o7 AW AX AQ o8 o9 (some (.obj H.length)) Gk Dr DZ CT D0 De Df CX C9 CU (H++(.Ao fs::ts))):=by
 conv=>whnf
 exact hs _ _ _ _ CZ k
theorem Vf(hs:WW rx fs v)(k:Au (C8 rx) X rest Q (sX (.seq false l0) S T bs ws gr o7 AW AX AQ o8 o9 (some (.obj H.length)) (some (.seq false v)) Dr DZ CT D0 De Df CX C9 CU (H++(.Ao fs::ts)))):
  Au (C8 rx) X (.cons (.asg 11 (.fcall 5 (.cons (.loc 10) .nil))) rest) Q (sX (.seq false l0) S T bs ws gr o7 AW AX AQ o8 o9 (some (.obj H.length)) Gk Dr DZ CT D0 De Df CX C9 CU (H++(.Ao fs::ts))):=
 Sy (C:=C8 rx) (hs 7) k
theorem Zk(k:∀stop,stop≤O.length→Au (C8 rx) X rest Q (sX (.seq false l0) S T bs ws gr o7 AW AX AQ (some (.seq false (gv O))) o9 Gj Gk (some (.int (.ofNat stop))) DZ CT D0 De Df CX C9 CU H)):
  Au (C8 rx) X (.cons (.asg 12 (.p2 .mod (.loc 1) (.p2 .add (.p1 .len (.loc 8)) (.lit (.int (.ofNat 1)))))) rest) Q (sX (.seq false l0) S T bs ws gr o7 AW AX AQ (some (.seq false (gv O))) o9 Gj Gk Dr DZ CT D0 De Df CX C9 CU H):=by
 obtain⟨stop,h,e⟩:=I6 S ((gv O).length+1) (jO _)
 rw[BH]at h
 have k:=k stop (Je h)
 rw[←e]at k
 conv=>whnf
 exact k
noncomputable abbrev Ml(bs O:List Nat):Val:=.seq false (.none::gv (O.filter fun x=> !bar bs x))
theorem SC{rs:List Nat}(hn:rs.length≤100)(hne:0 < rs.length)(hT:T=flat rs)(h8:Bq 128 T=true)
  (k:∀fs v stop,FS T fs→WW rx fs v→B5 v v=some true→v.all Ci=true→stop≤(order (bar bs) rs).length→N (sX (.seq false l0) S T bs (words rs 0) (Dq (gf rs [] 0).length) o7 AW AX AQ (some (.seq false (gv (order (bar bs) rs)))) (some (Ml bs (order (bar bs) rs))) (some (.obj (Bb (gf rs [] 0)++[Cell.Ak (gv (hd 5 (gf rs [] 0)))]).length)) (some (.seq false v)) (some (.int (.ofNat stop))) none none none none none none none none ((Bb (gf rs [] 0)++[.Ak (gv (hd 5 (gf rs [] 0)))])++[.Ao fs]))):
  Au (C8 rx) X Zn (Ky N) (sX (.seq false l0) S T bs (words rs 0) (Dq (gf rs [] 0).length) o7 AW AX AQ none none none none none none none none none none none none none (Bb (gf rs [] 0))):=by
 have hfl:=EL rs
 have hT2:∃u,T=u++[10]:=by
  rw[hT]
  obtain e |h:=EM rs
  ·match rs,hne with
   |r::rs,_=>
    have:=zy List.length e
    have h2:=Bt r
    have h3:(flat (r::rs)).length=(Ae r).length+(flat rs).length:=zd
    rw[h3]at this
    have:(Ae r).length+(flat rs).length=0:=this
    lia
  ·exact h
 have hol:=Ik (bar bs) rs
 refine Ve hn (eF (by lia) (eI (eJ hT2 (Zi (.inr hT2) h8 (by rw[hT];lia) fun fs F=>?_))))
 obtain⟨v,h1,h2,h3⟩:=Pv (rx:=rx) F
 refine Vf (ts:=[]) h1 (Zk fun stop hs=>?_)
 exact k fs v stop F h1 h2 h3 hs
theorem TM(k:∀a,N (sX (.seq false l0) S T bs ws gr o7 AW AX AQ o8 o9 Gj Gk Dr (some (.exc a)) CT D0 De Df CX C9 CU H)):Xm (C8 rx) fR 13 N (sX (.seq false l0) S T bs ws gr o7 AW AX AQ o8 o9 Gj Gk Dr DZ CT D0 De Df CX C9 CU H):=by
 obtain⟨n,h,e⟩:=I6 (Int.fdiv S (.ofNat 4)) 7 (by decide)
 refine⟨n,h,?_,fun a=>k a⟩
 conv=>whnf
 exact⟨by rw[←e],rfl⟩
theorem W0{H ts:List Cell}{c c':Cell}:(H++(c::ts))++[c']=H++(c::(ts++[c'])):=by rw[zl];rfl
theorem IT{H ts:List Cell}{c:Cell}:(H++(c::ts)).length=H.length+1+ts.length:=by rw[zd,zK];lia
theorem DQ{H ts:List Cell}{c x:Cell}{k:Nat}(h:ts[k]? =some x):(H++(c::ts))[H.length+1+k]? =some x:=by
 rw[zM (by lia),show H.length+1+k - H.length=k+1 by lia];exact h
theorem S1{H ts:List Cell}{c x:Cell}{k:Nat}:(H++(c::ts)).set (H.length+1+k) x=H++(c::ts.set k x):=by
 rw[List.set_append_right _ _ (by lia),show H.length+1+k - H.length=k+1 by lia];rfl
theorem T2{K:Val→List (Option Val)→List Cell→Prop}{X:AN→List (Option Val)→List Cell→Prop}{h:List Cell}{d j stop:Nat}{a:Val}{rs:List Nat}(F:FS T fs)(hrx:rx.syn=Ck)(hj:h[j]? =some (.Ak []))(ho:order (bar bs) rs=O)(hO:O.length < AJ)(ht:flat rs=T)(ht3:T.length≤50000)(hK:O.length≤stop→K (told (bar bs) O .none) fs (Hp h j O))
  (hX:∀p ys r,ys++p::r=O→ys.length=stop→XO a fun a=>X (.user a) fs (Hp h j (ys++[p]))):A8 (PQ rx) (d+1) (2000+3) fs (.int (.ofNat 6)::aP j stop a bs) h K X:=by
 cases F with
 |zero=>exact K5 hrx hj ho hO ht ht3 hK hX
 |one _=>exact K5 hrx hj ho hO ht ht3 hK hX
theorem JZ{N:Val→St→Prop}{Y:AN→St→Prop}{rs:List Nat}{k stop:Nat}{a:Val}{σ:St}{as:List (Option Nat×Int)}(F:FS T fs)(hrx:rx.syn=Ck)(hl:Ax σ.loc 10=some (.v (.obj H.length)))(hh:σ.heap=H++(.Ao fs::ts))(hk:ts[k]? =some (.Ak []))(ha:Ht σ.loc as=some (aP (H.length+1+k) stop a bs))
  (ho:order (bar bs) rs=O) (hO:O.length < AJ) (ht:flat rs=T) (ht3:T.length≤50000) (hK:O.length≤stop→N (told (bar bs) O .none) (σ.BA (H++(.Ao fs::ts.set k (.Ak (gv O))))))
  (hX:∀p ys r,ys++p::r=O→ys.length=stop→XO a fun a=>Y (.user a) (σ.BA (H++(.Ao fs::ts.set k (.Ak (gv (ys++[p]))))))):HI (C8 rx) 10 3 as N Y σ:=by
 refine⟨H.length,fs,aP (H.length+1+k) stop a bs,hl,by rw[hh];exact CZ,ha,?_⟩
 rw[hh,Cy]
 have eh:∀ys,(Hp (H++(.taken::ts)) (H.length+1+k) ys).set H.length (.Ao fs)=H++(.Ao fs::ts.set k (.Ak (gv ys))):=fun ys=>by
  show((H++(.taken::ts)).set (H.length+1+k) _).set H.length _=_
  rw[S1,Cy]
 refine T2 (d:=7) F hrx (DQ hk) ho hO ht ht3 (fun h=>?_) fun p ys r e hs=>?_
 ·show N _ (σ.BA ((Hp (H++(.taken::ts)) (H.length+1+k) O).set H.length (.Ao fs)))
  rw[eh];exact hK h
 ·show XO a fun a=>Y (.user a) (σ.BA ((Hp (H++(.taken::ts)) (H.length+1+k) (ys++[p])).set H.length (.Ao fs)))
  rw[eh];exact hX p ys r e hs
end
end
section
open L04 Rxm Pu
noncomputable abbrev a1:List (Option Nat×Int):=[(some 14,0),(none,99),(some 13,0),(some 4,0)]
noncomputable abbrev a2:List (Option Nat×Int):=[(some 16,0),(some 12,0),(some 13,0),(some 4,0)]
noncomputable abbrev a3:List (Option Nat×Int):=[(some 19,0),(none,99),(some 13,0),(some 4,0)]
noncomputable def V6(C:Cfg):St→Prop:=Au C NX eP (Ef fun r _ _=>r=.bool true)
noncomputable def V5(C:Cfg):St→Prop:=Au C NX eO (Ky (HI C 10 3 a3 (fun r σ=>V6 C (σ.BB 20 (.v r))) NX))
noncomputable def V4(C:Cfg):St→Prop:=Au C NX eM (Ky (VS C 10 3 a2 18 13 17 (V5 C)))
noncomputable def V3(C:Cfg):St→Prop:=Au C NX eL (Ky (HI C 10 3 a1 (fun r σ=>V4 C (σ.BB 15 (.v r))) NX))
noncomputable def Tl(w:Val):Prop:=w=.none∨∃n,w=.int (.ofNat n)
theorem Gn{b:Nat→Bool}:∀{l:List Nat} {v:Val},Tl v→Tl (told b l v)
 |[],_,h=>h
 |p::l,v,h=>by
  refine Gn (l:=l) ?_
  cases b p with
  |true=>exact h
  |false=>exact .inr ⟨p,rfl⟩
theorem D8{w:Val}(h:Tl w){σ:St}:Cf σ (.v w)=some w:=by obtain rfl |⟨n,rfl⟩:=h <;>rfl
theorem fh{rx:Rx}{w:Val}(h:Tl w):Bu rx .eq w w=some (.bool true):=by
 obtain rfl |⟨n,rfl⟩:=h
 ·rfl
 ·show some (Val.bool (FJ (.ofNat n) (.ofNat n)))=_;rw[EH]
theorem WT{rx:Rx}{w:Val}(h:Tl w):Bu rx .ne w w=some (.bool false):=by
 obtain rfl |⟨n,rfl⟩:=h
 ·rfl
 ·show some (Val.bool !(FJ (.ofNat n) (.ofNat n)))=_;rw[EH];rfl
theorem gM{rx:Rx}{l:List Val}(h:B5 l l=some true):Bu rx .eq (.seq false l) (.seq false l)=some (.bool true):=by
 show(B5 l l).bind _=_
 rw[h];rfl
theorem UC{rx:Rx}{l:List Val}(h:B5 l l=some true):Bu rx .ne (.seq false l) (.seq false l)=some (.bool false):=by
 show(B5 l l).bind _=_
 rw[h];rfl
theorem Gg{σ:St}{j:Nat}{xs:List Val}(h:σ.heap[j]? =some (.Ak xs)):Cf σ (.v (.hl j))=some (.seq false xs):=by
 show(match σ.heap[j]? with |some (.Ak xs)=>some (Val.seq false xs) |_=>none)=_
 rw[h]
theorem Qz{rx:Rx}{bs O:List Nat}:Bu rx .idx (Ml bs O) (.int (Int.negSucc 0))=some (told (bar bs) O .none):=by
 have k:∀(l:List Nat) (v:Val),Mi (v::gv (l.filter fun x=> !bar bs x)) (Int.negSucc 0)=some (told (bar bs) l v):=fun l=>by
  induction l with
  |nil=>exact fun _=>rfl
  |cons p l ih=>
   intro v
   show _=some (told (bar bs) l (cond (bar bs p) v (.int (.ofNat p))))
   rw[List.filter_cons]
   cases hb:bar bs p with
   |true=>exact ih v
   |false=>
    refine Eq.trans ?_ (ih (.int (.ofNat p)))
    show(_::_::gv (l.filter fun x=> !bar bs x))[(_::_::gv (l.filter fun x=> !bar bs x)).length - 1]? =(_::gv (l.filter fun x=> !bar bs x))[(_::gv (l.filter fun x=> !bar bs x)).length - 1]?
    exact List.getElem?_cons_succ
 exact k O .none
section
variable {rx:Rx}{l0 v:List Val}{S:Int}{T:Txt}{rs bs ws O:List Nat}{gr:List Val}{o7 AW AX AQ o8 o9 Gj Gk Dr DZ CT D0 De Df CX C9 CU:Option Val}{H ts:List Cell}{fs:List (Option Val)}{w ev:Val}{stop a:Nat}
theorem v6{c:Cell}(h3:ts[2]? =some (.Ak (gv O)))(hw:Tl w):V6 (C8 rx) (sX (.seq false l0) S T bs ws gr o7 AW AX AQ (some (.seq false (gv O))) o9 Gj Gk Dr DZ CT (some w) De Df CX (some (.hl (H.length+1+2))) (some w) (H++(c::ts))):=by
 unfold V6
 conv=>whnf
 refine Bv (Gg (DQ h3)) ?_
 conv=>whnf
 refine Bv (gM (Ko O)) ?_
 conv=>whnf
 refine Bv (D8 hw) ?_
 conv=>whnf
 refine Bv (D8 hw) ?_
 conv=>whnf
 refine Bv (fh hw) ?_
 conv=>whnf
noncomputable def WQ:Ss:=.cons (.if_ (.p2 .ne (.fcall 5 (.cons (.loc 10) .nil)) (.loc 11)) (.cons (.ret (.lit (.bool false))) .nil) (.nil)) (.cons (.asg 19 (.ntp)) .nil)
theorem mV{C:Cfg}{hp:List Cell}{P:Nat}{M:St→Prop}(hs:kI C fs v)(hv:B5 v v=some true)(hp1:hp[P]? =some (.Ao fs))
  (k:M (sX (.seq false l0) S T bs ws gr o7 AW AX AQ o8 o9 (some (.obj P)) (some (.seq false v)) Dr DZ CT D0 De Df CX (some (.hl hp.length)) CU (hp++[.Ak []]))):
  Au C NX WQ (Ky M) (sX (.seq false l0) S T bs ws gr o7 AW AX AQ o8 o9 (some (.obj P)) (some (.seq false v)) Dr DZ CT D0 De Df CX C9 CU hp):=by
 conv=>whnf
 refine hs _ _ _ _ hp1 ?_
 conv=>whnf
 refine Bv (UC hv) ?_
 conv=>whnf
 exact k
theorem ma{t1 t2:Cell}(hrx:rx.syn=Ck)(F:FS T fs)(hs:WW rx fs v)(hv:B5 v v=some true)(ho:order (bar bs) rs=O)(hO:O.length≤99)(ht:flat rs=T)(ht3:T.length≤50000)(hw:told (bar bs) O .none=w):
  Au (C8 rx) NX WQ (Ky (HI (C8 rx) 10 3 a3 (fun r σ=>V6 (C8 rx) (σ.BB 20 (.v r))) NX)) (sX (.seq false l0) S T bs ws gr o7 AW AX AQ (some (.seq false (gv O))) o9 (some (.obj H.length)) (some (.seq false v)) Dr (some ev) CT (some w) De Df CX C9 CU (H++(.Ao fs::[t1,t2]))):=by
 have hLIM:=Bk
 have e1:(H++(.Ao fs::[t1,t2]))++[.Ak []]=H++(.Ao fs::[t1,t2,.Ak []]):=W0
 have e2:(H++(.Ao fs::[t1,t2])).length=H.length+1+2:=IT
 have htl:Tl w:=hw▸Gn (.inl rfl)
 have k:HI (C8 rx) 10 3 a3 (fun r σ=>V6 (C8 rx) (σ.BB 20 (.v r))) NX (sX (.seq false l0) S T bs ws gr o7 AW AX AQ (some (.seq false (gv O))) o9 (some (.obj H.length)) (some (.seq false v)) Dr (some ev) CT (some w) De Df CX (some (.hl (H.length+1+2))) CU (H++(.Ao fs::[t1,t2,.Ak []]))):=by
  refine JZ (k:=2) (stop:=99) (a:=ev) (bs:=bs) F hrx rfl rfl rfl rfl ho (by lia) ht ht3 (fun _=>?_) fun p ys r e h99=>?_
  ·rw[hw];exact v6 rfl htl
  ·rw[←e,zd,h99,zK]at hO;lia
 rw[←e2,←e1]at k
 exact mV (hs 7) hv CZ k
end
end
section
open L04 Rxm Pu
theorem RJ{x:Val}(h:Ci x=true):Pa x=true:=by
 cases x with
 |none=>rfl
 |bool _=>rfl
 |int _=>rfl
 |str _=>rfl
 |_=>cases h
theorem Gi:∀{l:List Val},l.all Ci=true→Ee l=true
 |[],_=>rfl
 |x::l,h=>by
  rw[jP,jN]at h
  show cond (Pa x) (Ee l) false=true
  rw[RJ h.1];exact Gi h.2
theorem Cq(l:List Nat):Ee (gv l)=true:=Gi (zT.mpr fun x hx=>by
 obtain⟨y,_,e⟩:=zA.mp hx
 rw[←e];rfl)
theorem N2:∀l:List Nat,Ee (l.map Val.hl)=true
 |[]=>rfl
 |_::l=>N2 l
theorem Bg{x:Val}{r:List (Option LV)}(h:Pa x=true)(hr:F9 r=true):F9 (some (.v x)::r)=true:=by
 show cond (Pa x) (F9 r) false=true
 rw[h];exact hr
theorem Fi{o:Option Val}{r:List (Option LV)}(h:Sc o)(hr:F9 r=true):F9 (o.map LV.v::r)=true:=by
 cases o with
 |none=>exact hr
 |some x=>exact Bg (RJ (h x rfl)) hr
theorem DL:∀{a b:List Cell},DK a=true→DK b=true→DK (a++b)=true
 |[],_,_,h=>h
 | .Ao fs::a,b,h,k=>by
  have h:=condT h
  show cond (Lv fs) (DK (a++b)) false=true
  rw[h.1];exact DL h.2 k
 | .Ak xs::a,b,h,k=>by
  have h:=condT h
  show cond (Ee xs) (DK (a++b)) false=true
  rw[h.1];exact DL h.2 k
 | .taken::a,b,h,k=>DL (a:=a) h k
theorem GS:∀G:List (List Nat),DK (Bb G)=true
 |[]=>rfl
 |g::G=>by
  show cond (Ee (gv g)) (DK (Bb G)) false=true
  rw[Cq];exact GS G
theorem UJ{T:Txt}{fs:List (Option Val)}(F:FS T fs):Lv fs=true:=by
 cases F with
 |zero=>rfl
 |@one g c _=>
  show cond (Ee (gv g)) true false=true
  rw[Cq];rfl
theorem YB{w:Val}(h:Tl w):Pa w=true:=by obtain rfl |⟨n,rfl⟩:=h <;>rfl
section
variable {rx:Rx}{l0 v:List Val}{S:Int}{T:Txt}{rs bs ws O:List Nat}{gr:List Val}{o7 AW AX AQ o8 o9 Gj Gk Dr DZ CT D0 De Df CX C9 CU:Option Val}{H ts:List Cell}{fs:List (Option Val)}{w ev:Val}{stop a:Nat}
theorem mU{t1:Cell}(hrx:rx.syn=Ck)(F:FS T fs)(hs:WW rx fs v)(hv:B5 v v=some true)(ho:order (bar bs) rs=O)(hO:O.length≤99)(ht:flat rs=T)(ht3:T.length≤50000)(hw:told (bar bs) O .none=w)(hst:O.length≤stop):
  V5 (C8 rx) (sX (.seq false l0) S T bs ws gr o7 AW AX AQ (some (.seq false (gv O))) o9 (some (.obj H.length)) (some (.seq false v)) (some (.int (.ofNat stop))) (some ev) CT (some w) (some (.hl (H.length+1+1))) (some .none) (some w) C9 CU (H++(.Ao fs::[t1,.Ak (gv O)]))):=by
 have htl:Tl w:=hw▸Gn (.inl rfl)
 have k:=ma (l0:=l0) (S:=S) (ws:=ws) (gr:=gr) (o7:=o7) (AW:=AW) (AX:=AX) (AQ:=AQ) (o9:=o9) (Dr:=some (.int (.ofNat stop))) (ev:=ev) (CT:=CT) (De:=some (.hl (H.length+1+1))) (Df:=some .none) (CX:=some w) (C9:=C9) (CU:=CU) (H:=H) (t1:=t1) (t2:=.Ak (gv O)) hrx F hs hv ho hO ht ht3 hw
 unfold V5
 conv=>whnf
 refine BI (show Nat.blt stop (gv O).length=false from Pu.HX (by rw[BH];exact hst)) ?_
 conv=>whnf
 refine Bv (Gg (DQ (k:=1) rfl)) ?_
 conv=>whnf
 refine Bv (UC (Ko O)) ?_
 conv=>whnf
 refine Bv (D8 htl) ?_
 conv=>whnf
 refine Bv (D8 htl) ?_
 conv=>whnf
 refine Bv (WT htl) ?_
 exact k
theorem mT{t1:Cell}{ys r:List Nat}{p:Nat}(hrx:rx.syn=Ck)(F:FS T fs)(hs:WW rx fs v)(hv:B5 v v=some true)(ho:order (bar bs) rs=O)(hO:O.length≤99)(ht:flat rs=T)(ht3:T.length≤50000)(hw:told (bar bs) O .none=w)(hys:ys++p::r=O)(hst:ys.length=stop):
  V5 (C8 rx) (sX (.seq false l0) S T bs ws gr o7 AW AX AQ (some (.seq false (gv O))) o9 (some (.obj H.length)) (some (.seq false v)) (some (.int (.ofNat stop))) (some (.ad a)) CT (some w) (some (.hl (H.length+1+1))) (some (.ad a)) CX C9 CU (H++(.Ao fs::[t1,.Ak (gv (ys++[p]))]))):=by
 have k:=ma (l0:=l0) (S:=S) (ws:=ws) (gr:=gr) (o7:=o7) (AW:=AW) (AX:=AX) (AQ:=AQ) (o9:=o9) (Dr:=some (.int (.ofNat stop))) (ev:=.ad a) (CT:=CT) (De:=some (.hl (H.length+1+1))) (Df:=some (.ad a)) (CX:=CX) (C9:=C9) (CU:=CU) (H:=H) (t1:=t1) (t2:=.Ak (gv (ys++[p]))) hrx F hs hv ho hO ht ht3 hw
 have hlt:stop < O.length:=by rw[←hys,zd,hst,zK];lia
 have etk:O.take (stop+1)=ys++[p]:=by
  rw[←hys,←hst,show ys++p::r=(ys++[p])++r by rw[zl];rfl,List.take_append_of_le_length (by rw[zd];exact zu _),jU (by rw[zd];exact zu _)]
 have en:Bu rx .ne (.seq false (gv (ys++[p]))) (.seq false (slice (gv O) (.ofNat 0) (.ofNat (stop+1))))=some (.bool false):=by
  rw[Kq,etk];exact UC (Ko _)
 unfold V5
 conv=>whnf
 refine AL (show Nat.blt stop (gv O).length=true from CH (by rw[BH];exact hlt)) ?_
 conv=>whnf
 refine AL (jA a) ?_
 conv=>whnf
 refine Bv (Gg (DQ (k:=1) rfl)) ?_
 conv=>whnf
 refine Bv en ?_
 exact k
end
end
section
open L04 Rxm Pu
section
variable {rx:Rx}{l0 v:List Val}{S:Int}{T:Txt}{rs bs ws O:List Nat}{o7 AW AX AQ o9 De Df CX C9 CU:Option Val}{H:List Cell}{fs:List (Option Val)}{w:Val}{stop a n:Nat}
theorem v4(hrx:rx.syn=Ck)(F:FS T fs)(hs:WW rx fs v)(hv:B5 v v=some true)(hva:v.all Ci=true)(ho:order (bar bs) rs=O)(hO:O.length≤99)(ht:flat rs=T)(ht3:T.length≤50000)(hw:told (bar bs) O .none=w)(hst:stop≤O.length)(hH:DK H=true)(hl0:l0.all Ci=true)(c7:Sc o7)(c21:Sc AW)(c22:Sc AX)(c23:Sc AQ):
  V4 (C8 rx) (sX (.seq false l0) S T bs ws (Dq n) o7 AW AX AQ (some (.seq false (gv O))) (some (Ml bs O)) (some (.obj H.length)) (some (.seq false v)) (some (.int (.ofNat stop))) (some (.exc a)) (some (.hl (H.length+1+0))) (some w) none none none none none (H++(.Ao fs::[.Ak (gv O)]))):=by
 have hLIM:=Bk
 have htl:Tl w:=hw▸Gn (.inl rfl)
 have e1:(H++(.Ao fs::[.Ak (gv O)]))++[.Ak []]=H++(.Ao fs::[.Ak (gv O),.Ak []]):=W0
 have e2:(H++(Cell.Ao fs::[Cell.Ak (gv O)])).length=H.length+1+1:=IT
 have k:VS (C8 rx) 10 3 a2 18 13 17 (V5 (C8 rx)) (sX (.seq false l0) S T bs ws (Dq n) o7 AW AX AQ (some (.seq false (gv O))) (some (Ml bs O)) (some (.obj H.length)) (some (.seq false v)) (some (.int (.ofNat stop))) (some (.exc a)) (some (.hl (H.length+1+0))) (some w) (some (.hl (H.length+1+1))) (some .none) (some .none) none none (H++(.Ao fs::[.Ak (gv O),.Ak []]))):=by
  refine⟨a,rfl,rfl,JZ (k:=1) (stop:=stop) (a:=.exc a) (bs:=bs) F hrx rfl rfl rfl rfl ho (by lia) ht ht3 (fun h=>?_) fun p ys r e hys=>?_⟩
  ·rw[hw]
   exact mU hrx F hs hv ho hO ht ht3 hw h
  ·refine⟨a,rfl,?_⟩
   show AN.user a=AN.user a∧F9 (sX (.seq false l0) S T bs ws (Dq n) o7 AW AX AQ (some (.seq false (gv O))) (some (Ml bs O)) (some (.obj H.length)) (some (.seq false v)) (some (.int (.ofNat stop))) (some (.ad a)) (some (.hl (H.length+1+0))) (some w) (some (.hl (H.length+1+1))) (some .none) (some .none) none none H).loc=true∧DK (H++(.Ao fs::[.Ak (gv O),.Ak (gv (ys++[p]))]))=true∧_
   refine⟨rfl,?_,?_,?_⟩
   ·refine Bg (Gi hl0) (Bg rfl (Bg rfl (Bg rfl (Bg (Cq bs) (Bg (Cq ws) (Bg (N2 _) (Fi c7 (Bg (Cq O) (Bg (Cq _) (Bg rfl (Bg (Gi hva) (Bg rfl (Bg rfl (Bg rfl (Bg (YB htl) (Bg rfl (Bg rfl (Bg rfl ?_))))))))))))))))))
    exact Fi (o:=none) Iy (Fi (o:=none) Iy (Fi c21 (Fi c22 (Fi c23 rfl))))
   ·refine DL hH ?_
    show cond (Lv fs) (cond (Ee (gv O)) (cond (Ee (gv (ys++[p]))) true false) false) false=true
    rw[UJ F,Cq,Cq];rfl
   ·exact mT hrx F hs hv ho hO ht ht3 hw e hys
 rw[←e2,←e1]at k
 unfold V4
 conv=>whnf
 refine Bv (Gg (DQ (k:=0) rfl)) ?_
 conv=>whnf
 refine Bv (UC (Ko O)) ?_
 conv=>whnf
 refine Bv Qz ?_
 conv=>whnf
 refine Bv (D8 htl) ?_
 rw[hw]
 conv=>whnf
 refine Bv (D8 htl) ?_
 conv=>whnf
 refine Bv (WT htl) ?_
 conv=>whnf
 exact k
theorem v3(hrx:rx.syn=Ck)(F:FS T fs)(hs:WW rx fs v)(hv:B5 v v=some true)(hva:v.all Ci=true)(ho:order (bar bs) rs=O)(hO:O.length≤99)(ht:flat rs=T)(ht3:T.length≤50000)(hst:stop≤O.length)(hH:DK H=true)(hl0:l0.all Ci=true)(c7:Sc o7)(c21:Sc AW)(c22:Sc AX)(c23:Sc AQ):
  V3 (C8 rx) (sX (.seq false l0) S T bs ws (Dq n) o7 AW AX AQ (some (.seq false (gv O))) (some (Ml bs O)) (some (.obj H.length)) (some (.seq false v)) (some (.int (.ofNat stop))) (some (.exc a)) none none none none none none none (H++(.Ao fs::[]))):=by
 have hLIM:=Bk
 have e1:(H++(.Ao fs::[]))++[.Ak []]=H++(.Ao fs::[.Ak []]):=W0
 have e2:(H++(Cell.Ao fs::[])).length=H.length+1+0:=IT
 have k:HI (C8 rx) 10 3 a1 (fun r σ=>V4 (C8 rx) (σ.BB 15 (.v r))) NX (sX (.seq false l0) S T bs ws (Dq n) o7 AW AX AQ (some (.seq false (gv O))) (some (Ml bs O)) (some (.obj H.length)) (some (.seq false v)) (some (.int (.ofNat stop))) (some (.exc a)) (some (.hl (H.length+1+0))) none none none none none none (H++(.Ao fs::[.Ak []]))):=by
  refine JZ (k:=0) (stop:=99) (a:=.exc a) (bs:=bs) F hrx rfl rfl rfl rfl ho (by lia) ht ht3 (fun _=>?_) fun p ys r e h99=>?_
  ·exact v4 hrx F hs hv hva ho hO ht ht3 rfl hst hH hl0 c7 c21 c22 c23
  ·rw[←e,zd,h99,zK]at hO;lia
 rw[←e2,←e1]at k
 unfold V3
 conv=>whnf
 exact k
end
theorem Ts(r:Nat):Bq 128 (Ae r)=true:=LJ (fun r=>Bq 128 (Ae r)=true) rfl rfl rfl rfl rfl (fun _=>rfl) r
theorem HU{n:Nat}{z:Txt}:∀{x:Txt},Bq n x=true→Bq n z=true→Bq n (x++z)=true
 |[],_,h=>h
 |c::x,h,k=>by
  have h:=condT (show cond (Nat.blt c n) (Bq n x) false=true from h)
  show cond (Nat.blt c n) (Bq n (x++z)) false=true
  rw[h.1];exact HU h.2 k
theorem KL:∀rs:List Nat,Bq 128 (flat rs)=true
 |[]=>rfl
 |r::rs=>HU (Ts r) (KL rs)
theorem MR{rx:Rx}(hrx:rx.syn=Ck){xs:List Int}(hl:xs.length≤63):Au (C8 rx) NX Vi (Ky (X2 (fun σ=>Au (C8 rx) NX Zn (Ky (Xm (C8 rx) fR 13 (V3 (C8 rx)))) σ))) ⟨start [.seq false (xs.map .int)] Us,[],[],[]⟩:=by
 refine SA hl fun S rs bs T H gr o7 AW AX AQ h1 h2 h3 I c7 c21 c22 c23=>T6 ?_
 have hfl:=EL rs
 have hg:=I.o
 have hH:=I.h
 subst hg;subst hH
 have hol:=Ik (bar bs) rs
 refine SC (by lia) h1 I.T (by rw[I.T];exact KL rs) fun fs v stop F hs hv hva hst=>TM fun a=>?_
 refine v3 hrx F hs hv hva rfl (by lia) I.T.symm (by rw[I.T];lia) hst ?_ ?_ c7 c21 c22 c23
 ·exact DL (GS _) (by show cond (Ee (gv (hd 5 (gf rs [] 0)))) true false=true;rw[Cq];rfl)
 ·exact zT.mpr fun x hx=>by
   obtain⟨y,_,e⟩:=zA.mp hx
   rw[←e];rfl
end
end Ag.Pq
section
open PySem PySem.W PySem.Calls PyProof.Rows
section
set_option maxHeartbeats 8000000
set_option pp.deepTerms false
set_option pp.maxSteps 1500
namespace Ag.L04
noncomputable def fN:Kx:=⟨Rxm.Ei,L04.fns,0,11⟩
theorem MR(xs:List Int)(hl:xs.length≤63):J0.W (Bs fN 8) ⟨start [.seq false (xs.map .int)] Us,[],[],[]⟩:=
 Pq.MR rfl hl
noncomputable def Gu(prog:Program)(w:World)(h₀:Heap):Cx where
 prog:=prog
 w:=w
 K:=kf w.params
 PC:=231
 B0:=h₀
 attrs:=attrs
 self:="self"
 fad:=Dx.map (·.ad)
 gl:=gl
 mth:=Ii (KT (kf w.params) Dx)
 lams:=[Um,Un,Uo]
section
variable {prog:Program}{w:World}{h₀:Heap}
theorem i3(X:(kf w.params).In h₀):Dy (Gu prog w h₀) where
 gl:=bj (fun a o e=>X a o e) (glob w.params)
 attrs:=fun k n hk=>aF (zT.mp (attr w.params) n (zQ hk))
 nd:=GR (by kernel_rfl)
 few:=by show 11≤900;decide
noncomputable def mx(L:Cv):Bool:=L.args.all fun a=>match a.1 with | .free n=>Ui L.scope n .free && (O9 n && !(n==("__classdict__":Str))) | .num _=>true
theorem GI{L:Cv}(h:(mx L && (Ui L.scope L.nk .local && (Ui L.scope L.nm .globalImplicit && (O9 L.nk && (O9 L.nm && (L.scope.names.all (fun x=> !decide (x.2=.cell)) && (!L.scope.isCoroutine && (!L.scope.isGenerator && decide (L.scope.kind=.function)))))))))=true)
  (hb:∀pm c' ctv clos v,bindArgs (kla_fn "<lambda>" L.qual L.params L.body L.scope clos pm (.ref c') ctv) ⟨[v],[]⟩=pure [(L.nk,v)]):FF L:=by
 have h1:=Ac h
 have h2:=Ac h1.2
 have h3:=Ac h2.2
 have h4:=Ac h3.2
 have h5:=Ac h4.2
 have h6:=Ac h5.2
 have h7:=Ac h6.2
 have h8:=Ac h7.2
 refine⟨hb,Dl h2.1,Dl h3.1,fun n p hm=>?_,BN h7.1,BN h8.1,zX h8.2,fun x hx=>?_,BN h4.1,BN h5.1⟩
 ·have q:=Ac (zT.mp h1.1 _ hm)
  have q2:=Ac q.2
  exact⟨Dl q.1,BN q2.1,BN q2.2⟩
 ·exact of_decide_eq_false (BN (zT.mp h6.1 x hx))
theorem Ri:∀L∈(Gu prog w h₀).lams,FF L:=fun L hL=>by
 have hL:L∈[Um,Un,Uo]:=hL
 rcases zI.mp hL with e |hL
 ·rw[e];exact GI (by kernel_rfl) fun _ _ _ _ _=>by kernel_rfl
 rcases zI.mp hL with e |hL
 ·rw[e];exact GI (by kernel_rfl) fun _ _ _ _ _=>by kernel_rfl
 ·rw[zG.mp hL];exact GI (by kernel_rfl) fun _ _ _ _ _=>by kernel_rfl
theorem Lr:∀{l:List Str} {es:List Ent} {k:Nat},Ry (kf w.params) l es=true→k < l.length→∃e,es[k]? =some e∧hR (kf w.params) 231 attrs (Aj l k) e.ad=true
 |[],_,_,_,h=>absurd h (jy _)
 |_::_,[],_,h,_=>ft h
 |_::_,e::_,0,h,_=>⟨e,rfl,(Ac h).1⟩
 |_::_,_::_,k+1,h,hk=>Lr (k:=k) (Ac h).2 (jG hk)
theorem Rw{k:Nat}(hk:k < 5)(e:Ent)(he:Dx[k]? =some e)(hm:(Gu prog w h₀).mth k=true)(hf:(Gu prog w h₀).fad[k]? =some e.ad):PP (Gu prog w h₀) (Aj (C2.take 5) k) k:=by
 refine Aa (Lr (Af w.params) hk) fun e' h1 h2=>?_
 cases ze (he.symm.trans h1)
 exact bP hm hf h2
theorem bu:KF (Gu prog w h₀) C2 5 "Parser" 137:=by
 have h0:=Ac (bf w.params)
 have h1:=Ac h0.2
 refine bv (kS w.params) (fun k h0' h1'=>?_) (PY (P:=fun k=>PP (Gu prog w h₀) (Aj C2 k) k) (n:=5) ⟨⟨⟨⟨⟨trivial,Rw (k:=0) (by decide) _ rfl rfl rfl⟩,Rw (k:=1) (by decide) _ rfl rfl rfl⟩,Rw (k:=2) (by decide) _ rfl rfl rfl⟩,Rw (k:=3) (by decide) _ rfl rfl rfl⟩,Rw (k:=4) (by decide) _ rfl rfl rfl⟩)
 refine zg (JG h0') fun j e=>?_
 rw[←e]at h1' ⊢
 exact PY (P:=fun j=>(Gu prog w h₀).mth (5+j)=false∧∃a,(Gu prog w h₀).fad[5+j]? =some a∧be (kf w.params) (Aj C2 (5+j)) a=true) (n:=3) ⟨⟨⟨trivial,rfl,_,rfl,h0.1⟩,rfl,_,rfl,h1.1⟩,rfl,_,rfl,h1.2⟩ j (Nat.lt_of_add_lt_add_left h1')
noncomputable def fJ(K:Frag)(self:Str)(e:Ent):Prop:=∀args:List Value,args.length=((e.D K).AC self).length→bindArgs (fdOf K e.ad) ⟨args,[]⟩=pure (((e.D K).AC self).zip args)
theorem Wg:∀(k:Nat) (e:Ent),Dx[k]? =some e→fJ (kf w.params) "self" e:=fun k e he=>by
 refine PY (P:=fun k=>∀e,Dx[k]? =some e→fJ (kf w.params) "self" e) (n:=8) ?_ k (zn.mp he).1 e he
 have o:∀{k:Nat} {e:Ent},Dx[k]? =some e→fJ (kf w.params) "self" e→∀e,Dx[k]? =some e→fJ (kf w.params) "self" e:=fun h hb e he=>ze (h.symm.trans he)▸hb
 exact⟨⟨⟨⟨⟨⟨⟨⟨trivial,o rfl (kN rfl (fun _ _ _=>by kernel_rfl))⟩,o rfl (kM rfl (fun _ _=>by kernel_rfl))⟩,o rfl (gH rfl (fun _=>by kernel_rfl))⟩,o rfl (kM rfl (fun _ _=>by kernel_rfl))⟩,o rfl (gH rfl (fun _=>by kernel_rfl))⟩,o rfl (gH rfl (fun _=>by kernel_rfl))⟩,o rfl (mn rfl (fun _ _ _ _ _=>by kernel_rfl))⟩,o rfl (kN rfl (fun _ _ _=>by kernel_rfl))⟩
theorem aC:∃D a cdv,Eh (Gu prog w h₀) D a cdv:=by
 obtain⟨e,he,e1,e2,e3,e4,e5⟩:∃e,Dx[6]? =some e∧e.ad=249∧e.Af=false∧e.cells=[]∧e.pargs=(["asked","stop","error","barred","place"]:List Str)∧e.locs=[]:=⟨_,rfl,rfl,rfl,rfl,rfl,rfl⟩
 obtain⟨f,f1,f2,f3⟩:=C0 (ents w.params) (texts w.params) he
 have ef:f=EK:=ze (f1.symm.trans rfl)
 have hk:=(Ac (Ac (Ac f2).2).2).1
 have at_:FnAt (Gu prog w h₀) 6 (e.D (kf w.params)) e.ad (fdOf (kf w.params) e.ad).code:=ND (c:=Gu prog w h₀) (Ac f2).1 (by rw[e1];rfl) (Wg 6 e he)
 refine⟨_,_,_,at_,e2,e3,by show e.pargs.length=5;rw[e4];rfl,⟨e.T tx,?_,?_⟩,eq_of_beq (zT.mp (Ac (kS w.params)).1 "len" (.head _)),?_⟩
 ·show e.pargs++e.locs=e.pargs
  rw[e5,zE]
 ·rw[ef]at f3;exact f3.symm
 ·show(fdOf (kf w.params) e.ad).scope.names.lookup _=_
  rw[e1];kernel_rfl
theorem bg(X:(kf w.params).In h₀):Gr (Gu prog w h₀) fN Dx C2 5 "Parser" 137:=
 ⟨i3 X,Ri,aC,bu,rfl,rfl,by decide,ents w.params,texts w.params,Wg,rfl,rfl,rfl,rfl⟩
noncomputable def DI(L:Addr):List (Str×Addr):=[("stop",L+6),("last",L+5),("heard",L+4),("error",L+3),("barred",L+2),("asked",L+1)]
noncomputable def Fc(w:World)(h₀:Heap)(L fa:Addr):Fx:=⟨"law",(fdOf (kf w.params) 259).scope,L,fa,.ref 258,DI L,h₀,C5.pargs++C5.locs⟩
theorem Rk{L:Addr}:((DI L).map (·.2)).Nodup:=by simp[DI]
theorem T5{as:List (Cu×Pos)}{n:Str}{p:Pos}(h:(Cu.free n,p)∈as):n∈as.filterMap fun a=>match a.1 with | .free n=>some n | .num _=>none:=List.mem_filterMap.mpr ⟨_,h,rfl⟩
section
variable {L fa:Addr}
theorem Rh(hC:CodeHd h₀ 258 256){l:Cv}{ns:List Str}{clos:List (Str×Addr)}(hcl:closureFor l.scope (Fc w h₀ L fa).env=pure clos)(hns:(l.args.filterMap fun a=>match a.1 with | .free n=>some n | .num _=>none)=ns)
  (hl:∀n∈ns,(fdOf (kf w.params) 259).scope.names.lookup n=some .cell∧∃ca,clos.lookup n=some ca∧(DI L).lookup n=some ca) (hs:∀b∈clos.map (·.2),∃n,(DI L).lookup n=some b) (hq:l.qual="law.<locals>.<lambda>") (hd:defaultsOf l.params (Fc w h₀ L fa).env=([],[])) (hm:l.nm="_law_answer"):KB (Gu prog w h₀) (Fc w h₀ L fa) l 256 258 clos where
 hd:=hC
 cd:=rfl
 cls:=hcl
 look:=fun n p h=>hl n (hns▸T5 h)
 sub:=hs
 qual:=by rw[hq];kernel_rfl
 dflt:=hd
 gl:=⟨249,by rw[hm];exact eq_of_beq (Ac (Ac (Ac (bf w.params)).2).1).1,rfl⟩
theorem all1{α:Type}{P:α→Prop}{x:α}(h:P x):∀y∈[x],P y:=fun y hy=>by rw[zG.mp hy];exact h
theorem Cm{α:Type}{P:α→Prop}{x:α}{r:List α}(h:P x)(hr:∀y∈r,P y):∀y∈x::r,P y:=fun y hy=>by
 rcases zI.mp hy with e |hy
 ·rw[e];exact h
 ·exact hr y hy
theorem c1:(DI L).lookup ("asked":Str)=some (L+1):=by kernel_rfl
theorem c2:(DI L).lookup ("barred":Str)=some (L+2):=by kernel_rfl
theorem c3:(DI L).lookup ("error":Str)=some (L+3):=by kernel_rfl
theorem c4:(DI L).lookup ("heard":Str)=some (L+4):=by kernel_rfl
theorem c5:(DI L).lookup ("last":Str)=some (L+5):=by kernel_rfl
theorem c6:(DI L).lookup ("stop":Str)=some (L+6):=by kernel_rfl
theorem k1:∀n∈(["asked","barred","error","heard","last","stop"]:List Str),(fdOf (kf w.params) 259).scope.names.lookup n=some .cell:=
 Cm (by kernel_rfl) (Cm (by kernel_rfl) (Cm (by kernel_rfl) (Cm (by kernel_rfl) (Cm (by kernel_rfl) (all1 (by kernel_rfl))))))
theorem l1(hC:CodeHd h₀ 258 256):KD (Gu prog w h₀) (Fc w h₀ L fa) MA 256 258 Um [("error",L+3),("barred",L+2),("asked",L+1)] J0.a1:=
 ⟨Rh hC (ns:=["asked","error","barred"]) (by kernel_rfl) (by kernel_rfl) (Cm ⟨k1 _ (by simp),_,by kernel_rfl,c1⟩ (Cm ⟨k1 _ (by simp),_,by kernel_rfl,c3⟩ (all1 ⟨k1 _ (by simp),_,by kernel_rfl,c2⟩))) (Cm ⟨_,c3⟩ (Cm ⟨_,c2⟩ (all1 ⟨_,c1⟩))) (by kernel_rfl) (by kernel_rfl) rfl,.head _,by kernel_rfl⟩
theorem l2(hC:CodeHd h₀ 258 256):KD (Gu prog w h₀) (Fc w h₀ L fa) MA 256 258 Un [("stop",L+6),("heard",L+4),("error",L+3),("barred",L+2)] J0.a2:=
 ⟨Rh hC (ns:=["heard","stop","error","barred"]) (by kernel_rfl) (by kernel_rfl) (Cm ⟨k1 _ (by simp),_,by kernel_rfl,c4⟩ (Cm ⟨k1 _ (by simp),_,by kernel_rfl,c6⟩ (Cm ⟨k1 _ (by simp),_,by kernel_rfl,c3⟩ (all1 ⟨k1 _ (by simp),_,by kernel_rfl,c2⟩)))) (Cm ⟨_,c6⟩ (Cm ⟨_,c4⟩ (Cm ⟨_,c3⟩ (all1 ⟨_,c2⟩)))) (by kernel_rfl) (by kernel_rfl) rfl,.tail _ (.head _),by kernel_rfl⟩
theorem l3(hC:CodeHd h₀ 258 256):KD (Gu prog w h₀) (Fc w h₀ L fa) MA 256 258 Uo [("last",L+5),("error",L+3),("barred",L+2)] J0.a3:=
 ⟨Rh hC (ns:=["last","error","barred"]) (by kernel_rfl) (by kernel_rfl) (Cm ⟨k1 _ (by simp),_,by kernel_rfl,c5⟩ (Cm ⟨k1 _ (by simp),_,by kernel_rfl,c3⟩ (all1 ⟨k1 _ (by simp),_,by kernel_rfl,c2⟩))) (Cm ⟨_,c5⟩ (Cm ⟨_,c3⟩ (all1 ⟨_,c2⟩))) (by kernel_rfl) (by kernel_rfl) rfl,.tail _ (.tail _ (.head _)),by kernel_rfl⟩
theorem bx{mg mb:Str→Option Value}{q:Program}{loose:List Str}{mean:ExcName→Option Value}{h₁:Heap}{m:Str→Option Value}{a:Addr}{cs:List (Addr×Obj)}{vals:List Value}{xs:List Int}{gens:Array GenState}{dr:Drawn}{tk:Nat}{os:OsState}{base:Heap}
  (X:(kf w.params).In h₀) (T:Top q loose mean mg mb h₀) (K0:Below callerA base [] h₀) (C:CodeHd h₀ 258 256) (hlt:256 < L) (F:Fr h₀ L h₁ m) (N:News h₀ L h₁ (cs++[(256,tabObj #[])])) (hcs:cs.map (·.1)=[L+6,L+5,L+4,L+3,L+2,L+1]) (hco:∀p∈cs,∃v,p.2.data=.cell v) (hm:m "script"=some (.ref a)) (hL:h₀.IsList a vals.toArray) (hI:IntsAre vals xs)
  (hlen:xs.length≤63) {E:Value→Shared→Prop} {Q:Flow→Shared→Prop} (hq:∀s' m' ps,Fr h₀ L s'.heap m'→An ⟨h₁,gens,dr,tk,os⟩ s'→s'.heap.get? 256=some (tabObj ps)→Q (.ret (.bool true)) s'):
  wpAny (model prog w) (callerA.deeper (Fc w h₀ L fa).env) (execs (E2 (fdOf (kf w.params) 259)) (Fc w h₀ L fa).env) Q E ⟨h₁,gens,dr,tk,os⟩:=by
 have O:=bg (prog:=prog) (w:=w) (h₀:=h₀) X
 have HC:=O.calls 8
 obtain⟨DA,aA,cA,OA⟩:=O.A
 have W:Tq (Gu prog w h₀) (Bs fN 8) 8 ⟨C5.pargs++C5.locs,(fdOf (kf w.params) 259).scope,false⟩ MA:=
  WR (S:=⟨C5.pargs++C5.locs,(fdOf (kf w.params) 259).scope,false⟩) bu rfl rfl rfl rfl Ri OA HC (bz w.params)
 have G:L8 (Gu prog w h₀) (Fc w h₀ L fa) (callerA.deeper (Fc w h₀ L fa).env) 8:=
  {kind:=by kernel_rfl,hh:=rfl,depth:=by show 1+claimMargin+1+8*8+8 < 1000;decide+kernel,units:=by show 4+3+24*8+80 < 9900;decide,fr:=⟨[],callerA,base,rfl,K0⟩,X:=X,T:=⟨_,_,_,mg,mb,T⟩,gd:=⟨[],rfl⟩}
 have NM:E4 (Gu prog w h₀) (Fc w h₀ L fa):=UF (f:=Fc w h₀ L fa) (bz w.params) (by kernel_rfl) (by kernel_rfl) (by kernel_rfl) rfl Rk
 have hD:(KT (kf w.params) Dx)[3]? =some ((⟨151,true,["is_char_in_string"],["limit","tries","i","code","pos","m","s"],[],["len","range","_synchre"],(Dx.getD 3 C5).ps⟩:Ent).D (kf w.params),151,(fdOf (kf w.params) 151).code):=rfl
 have bd:=O.Qo (d:=7) (O.calls 7) hD (fn:=BM) rfl
 have hb:=Ac (g0 w.params)
 have bn:∀{n:Str} {v:Value},aL (kf w.params) (fdOf (kf w.params) 259).scope n=true→bootBuiltins n=some v→Ma (Gu prog w h₀) ⟨C5.pargs++C5.locs,(fdOf (kf w.params) 259).scope,false⟩ n v:=fun h hv=>aM (c:=Gu prog w h₀) (S:=⟨C5.pargs++C5.locs,(fdOf (kf w.params) 259).scope,false⟩) h hv
 have hx:∀p∈J0.el,aL (kf w.params) (fdOf (kf w.params) 259).scope p.1=true:=zT.mp hb.2
 rw[←g8 w.params]
 refine Yd (s:=⟨h₁,gens,dr,tk,os⟩) (m:=m) (c:=Gu prog w h₀) (P:=fN) (d:=7) (f:=Fc w h₀ L fa) (xs:=xs.map .int) (nloc:=Us) (T:=MA) (t:=J0) O.ok HC W g7 G NM rfl rfl rfl ⟨O.are,rfl,rfl,hD,rfl,rfl,bd⟩ (by decide) (l1 C) (l2 C) (l3 C) ?_ rfl (by kernel_rfl) (bn hb.1 rfl) hcs.symm F N ?_ hco (sn:="script") rfl (by kernel_rfl) hm ?_ (fun _ _ e=>e) (MR xs hlen) hq
 ·exact⟨⟨_,bn (hx _ (.head _)) rfl,T1,by kernel_rfl⟩,⟨_,bn (hx _ (.tail _ (.head _))) rfl,T0,by kernel_rfl⟩,⟨_,bn (hx _ (.tail _ (.tail _ (.head _)))) rfl,TZ,by kernel_rfl⟩,⟨_,bn (hx _ (.tail _ (.tail _ (.tail _ (.head _))))) rfl,QR,by kernel_rfl⟩,⟨_,bn (hx _ (.tail _ (.tail _ (.tail _ (.tail _ (.head _)))))) rfl,TY⟩,⟨_,bn (hx _ (.tail _ (.tail _ (.tail _ (.tail _ (.tail _ (.head _))))))) rfl,QQ,by kernel_rfl⟩,⟨_,bn (hx _ (.tail _ (.tail _ (.tail _ (.tail _ (.tail _ (.tail _ (.head _)))))))) rfl,QS,by kernel_rfl⟩,trivial⟩
 ·rw[hcs]
  have hne:∀k,L+k≠256:=fun k=>by lia
  simp[hne]
 ·obtain⟨o,h1,h2,n,h3⟩:=hL
  exact .seq ⟨o,.inl ⟨h1,fun vs e=>(by rw[h3]at e;cases e)⟩,h2,h3⟩ (by rw[jb];show xs.length≤16777216;lia) (NO hI)
end
end
end Ag.L04
open Ag.L04
noncomputable def Ag.top.tw16679763427565415256:Program:=Hd.q
theorem Ag.top.te16679763427565415256:Hd.q=Ag.top.tw16679763427565415256:=rfl
noncomputable def Ag.top.tw7625976266985363445:List Str:=Hd.loose
theorem Ag.top.te7625976266985363445:Hd.loose=Ag.top.tw7625976266985363445:=rfl
theorem Ag.top:PySem.Challenge.rw_km0029_05.Holds:=by
 refine Hd.hd ?_
 k_fill
 intro w s₀ s₁ mg mb G Y fa o pm cd doc dV kV ho hd hcd hD hmg hg args vals as hpre hlay hrd hwl hlo
 have KX:=km_in_of Y
 have hT8:=km_tabs_of Y
 have X:=(Ground.X G).1
 have V:=(Ground.X G).2
 refine Ground.open G ?_
 intro T B D TE TW
 try (refine guard_noD D (by decide+kernel) ?_;clear D)
 have hT9:TabsAt [(258,256)] _:=List.forall_mem_cons.mpr ⟨⟨codeHd_of_K (c:=258) (P:=256) KX (by kernel_rfl),hT8 256 (.head _)⟩,fun _ h=>nomatch h⟩
 have he9:cd=PySem.Value.ref 258:=law_code (x:=PySem.Str.ofString "law") (c:=258) (P:=256) KX (Top.g T) (by kernel_rfl) hmg ho hd
 subst he9
 clear hmg
 wrow_args hpre hlay hrd hwl hlo
 refine Ag.NG.enter hT9 (fun _ _=>rfl) ?_
 w_top on
 w_call any ho hd hcd hD T F
 clear hd
 kn_ghosts F T
 k_drop
 have T:= ‹Top topProg _ _ _ _ _›
 have KX:= ‹Frag.In _ (ghostOf _ _)›
 have K0:= ‹Below _ _ _ _›
 have hF:= ‹Fr _ _ _ _›
 have hN:= ‹News _ _ _ _›
 have hL:= ‹Heap.IsList (ghostOf _ _) _ _›
 have hI:= ‹IntsAre _ _›
 have hC:= ‹CodeHd _ _ _›
 have hl:= ‹256 < _›
 have hg0:= ‹Shared.gens _= #[]›
 refine bx (cs:=[(_,_),(_,_),(_,_),(_,_),(_,_),(_,_)]) KX T K0 hC hl hF hN rfl (Cm ⟨_,by assumption⟩ (Cm ⟨_,by assumption⟩ (Cm ⟨_,by assumption⟩ (Cm ⟨_,by assumption⟩ (Cm ⟨_,by assumption⟩ (all1 ⟨_,by assumption⟩)))))) rfl hL hI ?_ ?_
 ·lia
 ·intro s' m' ps F' sm hp
  refine⟨goodW_bool F' ?_ ?_ ?_ ?_,⟨ps,hp⟩,trivial⟩
  ·exact sm.gens.trans hg0
  ·intro cls;rfl
  ·first |wrow_post |rfl
  ·exact sm.os
end
end
theorem PySem.Challenge.cw_km0029_05_holds : PySem.Challenge.rw_km0029_05.Holds :=
 Ag.top
