import PyProof.Rows.All
import Wide.All
import OpenK.AllK
import Wide.FinOn
import KE.KNestM
import KE.LcTurns
import KE.KLam
import PySem.Challenge.RW_km0029_02
set_option genInjectivity false
set_option genSizeOf false
set_option tactic.hygienic false
set_option maxRecDepth 100000
set_option linter.unusedVariables false
noncomputable def za:=@Bool.casesOn
noncomputable def zd:=@List.length_append
noncomputable def ze:=@Option.some.inj
noncomputable def zg:=@Exists.elim
noncomputable def zh:=@Option.casesOn
noncomputable def zi:=@List.casesOn
noncomputable def zj:=@List.mem_append_right
noncomputable def zk:=@List.append_assoc
noncomputable def zl:=@Nat.le_trans
noncomputable def zn:=@PySem.wpAny_bind
noncomputable def zo:=@List.forall_mem_cons
noncomputable def zp:=@Nat.le_of_ble_eq_true
noncomputable def zr:=@List.mem_append_left
noncomputable def zt:=@Nat.ble_eq_true_of_le
noncomputable def zu:=@List.getElem?_eq_some_iff
noncomputable def zw:=@Nat.le_refl
noncomputable def zy:=@List.length_cons
noncomputable def zz:=@Bool.and_eq_true_iff
noncomputable def zA:=@Nat.le_add_right
noncomputable def zB:=@congrArg
noncomputable def zC:=@List.mem_cons_of_mem
noncomputable def zD:=@Nat.eq_of_beq_eq_true
noncomputable def zE:=@Nat.casesOn
noncomputable def zF:=@List.mem_append
noncomputable def zG:=@PySem.wpAny_pure
noncomputable def zH:=@Nat.zero_le
noncomputable def zI:=@List.mem_singleton
noncomputable def zJ:=@decide_eq_false
noncomputable def zK:=@List.mem_map
noncomputable def zL:=@List.append_nil
noncomputable def zM:=@List.getElem?_append_left
noncomputable def zN:=@Nat.succ_le_succ
noncomputable def zO:=@Nat.lt_of_lt_of_le
noncomputable def zP:=@if_neg
noncomputable def zQ:=@Nat.lt_succ_self
noncomputable def zR:=@List.all_eq_true
noncomputable def zS:=@Nat.add_le_add_left
noncomputable def zT:=@Nat.add_assoc
noncomputable def zU:=@List.getElem?_append_right
noncomputable def zV:=@Nat.le_succ
noncomputable def zW:=@Int.casesOn
noncomputable def zX:=@if_pos
noncomputable def zY:=@List.size_toArray
noncomputable def zZ:=@PySem.wpAny_mono
noncomputable def z3:=@List.length_map
noncomputable def z4:=@List.length_drop
noncomputable def z5:=@List.mem_cons
noncomputable def z6:=@cond_false
noncomputable def z7:=@of_decide_eq_true
noncomputable def z8:=@List.nodup_append
noncomputable def z9:=@List.cons.inj
noncomputable def ja:=@List.drop_drop
noncomputable def jb:=@PySem.builtinLookup_eq_fast
noncomputable def jc:=@List.getElem?_eq_getElem
noncomputable def jd:=@Nat.min_eq_left
noncomputable def je:=@PyProof.Rows.args_cons
noncomputable def jf:=@List.mem_filter
noncomputable def jg:=@List.lookup_cons
noncomputable def jh:=@List.mem_of_getElem?
noncomputable def ji:=@List.getElem?_toArray
noncomputable def jj:=@PySem.wpAny_holding
noncomputable def jk:=@beq_eq_false_iff_ne
noncomputable def jl:=@Nat.succ_pos
noncomputable def jm:=@List.map_append
noncomputable def jn:=@Nat.add_sub_cancel_left
noncomputable def jo:=@List.length_take
noncomputable def jp:=@Bool.and_eq_true
noncomputable def jq:=@List.drop_of_length_le
noncomputable def jr:=@Int.natCast_nonneg
noncomputable def js:=@decide_eq_true
noncomputable def jt:=@Nat.not_lt_zero
noncomputable def ju:=@List.drop_left
noncomputable def jv:=@PySem.Heap.lt_size
noncomputable def jw:=@Nat.add_sub_cancel'
noncomputable def jx:=@Nat.le_succ_of_le
noncomputable def jy:=@Nat.add_comm
noncomputable def jz:=@cond_true
noncomputable def jA:=@Nat.lt_of_le_of_lt
noncomputable def jB:=@Nat.lt_of_succ_lt_succ
noncomputable def jC:=@PySem.typeLookup_type
noncomputable def jD:=@Nat.zero_add
noncomputable def jE:=@Bool.false_ne_true
noncomputable def jF:=@beq_self_eq_true
noncomputable def jG:=@List.contains_eq_mem
noncomputable def jH:=@List.cons_append
noncomputable def jI:=@Or.casesOn
noncomputable def jJ:=@Nat.sub_le
noncomputable def jK:=@Nat.lt_succ_of_le
noncomputable def jL:=@List.drop_eq_nil_of_le
noncomputable def jM:=@Decidable.byContradiction
noncomputable def jN:=@List.length_replicate
noncomputable def jO:=@Nat.succ_ne_zero
noncomputable def jP:=@List.all_cons
noncomputable def jQ:=@PyProof.Rows.callWith_method1
noncomputable def jR:=@List.drop_append_of_le_length
noncomputable def jS:=@Bool.or_eq_false_iff
noncomputable def jT:=@PyProof.Rows.args_nil
noncomputable def jU:=@List.nodup_cons
noncomputable def jV:=@List.length_set
noncomputable def jW:=@Nat.sub_self
noncomputable def jX:=@List.take_of_length_le
noncomputable def jY:=@Array.getD_eq_getD_getElem?
noncomputable def jZ:=@PyProof.Rows.Constant_none
noncomputable def j3:=@Nat.add_right_comm
noncomputable def j4:=@List.drop_zero
noncomputable def j5:=@PySem.Heap.get?_push_size
noncomputable def j6:=@Nat.add_le_of_le_sub'
noncomputable def j7:=@List.drop_eq_getElem_cons
noncomputable def j8:=@List.nil_append
noncomputable def j9:=@PySem.isSubtype_type
noncomputable def Ja:=@Nat.ne_of_lt
noncomputable def Jb:=@Nat.le_of_lt
noncomputable def Jc:=@Nat.le_of_eq
noncomputable def Jd:=@Nat.beq_refl
noncomputable def Je:=@List.getElem?_map
noncomputable def Jf:=@Int.negSucc_lt_zero
noncomputable def Jg:=@Nat.lt_add_of_pos_right
noncomputable def Jh:=@Nat.le_of_not_lt
noncomputable def Ji:=@List.isEmpty_iff
noncomputable def Jj:=@List.eq_nil_of_length_eq_zero
noncomputable def Jk:=@List.getElem?_set_self
noncomputable def Jl:=@List.forIn_cons
noncomputable def Jm:=@Nat.lt_irrefl
noncomputable def Jo:=@Nat.le_of_sub_eq_zero
noncomputable def Jp:=@Nat.le_of_lt_succ
noncomputable def Jq:=@List.getElem?_nil
noncomputable def Jr:=@PySem.typeIs_str
noncomputable def Js:=@List.getElem?_set_ne
noncomputable def Jt:=@PySem.signature?_of
noncomputable def Ju:=@Nat.le_of_not_le
noncomputable def Jv:=@Int.ofNat_lt
noncomputable def Jw:=@List.filterMap_cons
noncomputable def Jx:=@Nat.le_add_left
noncomputable def Jy:=@PySem.entryFor_of_tree
noncomputable def Jz:=@Nat.le.dest
noncomputable def JA:=@Nat.lt_succ_of_lt
noncomputable def JB:=@Nat.add_zero
noncomputable def JC:=@Bool.not_eq_true'
noncomputable def JD:=@Nat.lt_of_not_le
noncomputable def JE:=@List.cons_ne_nil
noncomputable def JF:=@Int.max_eq_right
noncomputable def JG:=@List.any_cons
noncomputable def JH:=@List.length_nil
noncomputable def JI:=@List.head?_drop
noncomputable def JJ:=@Bool.or_eq_true
noncomputable def JK:=@Nat.sub_lt_sub_left
noncomputable def JL:=@Array.toList_append
noncomputable def JM:=@PySem.wpAny_call_entry
noncomputable def JN:=@PySem.wpAny_call
noncomputable def JO:=@PyProof.Rows.callWith_type1
noncomputable def JP:=@Nat.zero_min
noncomputable def JQ:=@PySem.wpAny_standAt
noncomputable def JR:=@congrFun
noncomputable def JS:=@List.drop_take
noncomputable def JT:=@Int.not_lt
noncomputable def JU:=@Bool.false_eq_true
noncomputable def JV:=@decide_eq_true_eq
noncomputable def JW:=@PySem.builtinType_eq_fast
noncomputable def JX:=@Option.isSome_iff_exists
noncomputable def JY:=@List.map_cons
noncomputable def JZ:=@PyProof.Rows.News.push
noncomputable def J0:=@PySem.wpAny_Constant_str
noncomputable def J3:=@Nat.min_eq_right
noncomputable def J4:=@List.getElem_inj
noncomputable def J5:=@bne_iff_ne
noncomputable def J6:=@Nat.succ_add
noncomputable def J7:=@Nat.mul_succ
noncomputable def J8:=@PySem.wpAny_of_eq
noncomputable def J9:=@Nat.le_antisymm
noncomputable def qb:=@List.foldl_cons
noncomputable def qd:=@Int.negSucc_eq
noncomputable def qe:=@PySem.wpAny_rule
noncomputable def qf:=@PySem.Heap.get?_push_of_some
section
open PySem PySem.W PySem.Calls PyProof.Rows
namespace Hd
noncomputable abbrev vt:String→Value:=Value.type
noncomputable abbrev vr:Nat→Value:=Value.ref
noncomputable abbrev vb:String→Value:=Value.builtin
noncomputable def de(P:Params)(x:Str)(t:Nat)(v:Value):DictEntry:=⟨PyData.keyHash P x,.str x t,v⟩
noncomputable def AH:List Stmt→Nat→Stmt
 |[],_=>.Pass ⟨0,0,0,0⟩
 |x::_,0=>x
 |_::r,k+1=>AH r k
noncomputable def pg:Program:=PySem.Challenge.pw_km0029_02
noncomputable def sT(i:Nat):Stmt:=AH pg.main.body i
noncomputable def sC(i j:Nat):Stmt:=match sT i with | .ClassDef _ _ _ b _ _ _ _ _ _ _=>AH b j |s=>s
noncomputable def fB:Stmt→List Stmt | .FunctionDef _ _ b _ _ _ _ _ _ _=>b |_=>[]
noncomputable def fA:Stmt→Arguments | .FunctionDef _ a _ _ _ _ _ _ _ _=>a |_=>⟨[],[],none,[],[],none,[]⟩
noncomputable def fS:Stmt→Scope | .FunctionDef _ _ _ _ _ _ s _ _ _=>s |_=>pg.main.scope
noncomputable def I7:Life:=(@PySem.Life.mk [] [] [] 0 [] [] Bool.false #[] [] 0 Bool.false Bool.false Bool.false 0 [2000,10,10] Bool.false 0 Bool.true [] [] 0 Bool.false)
noncomputable abbrev vn:=Value.none
noncomputable abbrev vT:=Value.bool true
noncomputable abbrev vF:=Value.bool false
noncomputable abbrev i0(a:Int):=Value.int a 0
noncomputable abbrev vi:=Value.int
noncomputable abbrev so(x:String):=Str.ofString x
noncomputable abbrev vs(x:String)(t:Nat):=Value.str (Str.ofString x) t
noncomputable abbrev vc:=vs "/claim/cut.py"
noncomputable abbrev vp:=vs "cpy313.idlelib.pyparse" 289
noncomputable abbrev vm:=vs "__main__" 164
noncomputable def is:List Int→List Value:=List.rec [] fun a _ r=>.int a 0::r
noncomputable def it(t:Nat)(l:List Int):List Value:=List.rec (fun _=>[]) (fun a _ r t=>.int a t::r t.succ) l t
noncomputable def st(t:Nat)(l:List String):List Value:=List.rec (fun _=>[]) (fun a _ r t=>vs a t::r t.succ) l t
noncomputable def dn(k:Nat)(a:Int)(t:Nat)(v:Int)(u:Nat):DictEntry:=⟨k,.int a t,.int v u⟩
noncomputable def dx(k:Nat):DictEntry:=⟨k,.int (.ofNat k) (Nat.add 932 (Nat.mul 2 k)),.int 120 931⟩
noncomputable def sq(c:String)(l:List Value):Obj:=⟨vt c,none,.seq l.toArray 0,#[]⟩
noncomputable def tu:=sq "tuple"
noncomputable def li:=sq "list"
noncomputable def fi(c:Value)(l:List Value):Obj:=⟨c,none,.fields l.toArray,#[]⟩
noncomputable def cd(n q:String)(t:Nat)(l a:Int)(r u:Nat):Obj:=fi (vt "code") [vs n t,vs q t.succ,vc t.succ.succ,i0 l,i0 a,i0 0,i0 0,i0 3,vr r,vT,i0 276,vr r.succ,vn,vr (Nat.add r 2),vr (Nat.add r 3),vr (Nat.add r 4),i0 (.ofNat u),i0 l,vc u.succ]
noncomputable def fn(c:Value)(n q:String)(s:Stmt)(k:Nat)(w v:Value):Obj:=⟨c,none,.func ⟨so n,so q,fA s,.stmts (fB s),fS s,k,[],vn,vn,vn,w,none,v,vn,0⟩,#[]⟩
noncomputable abbrev N:=BT.node
noncomputable abbrev Z:=BT.nil
noncomputable abbrev L(o:Obj):=BT.node o .nil .nil
noncomputable def o0(P:Params):Obj:=(Obj.mk (vt "dict") none (Data.dict #[de P "__name__" 1 (vs "builtins" 160),de P "__doc__" 2 (vb "builtins.__doc__:str#\x6fpaque"),de P "__package__" 3 (vb "builtins.__package__:str#\x6fpaque"),de P "__loader__" 4 (vb "builtins.__loader__:shared#\x6fpaque"),de P "__spec__" 5 (vb "builtins.__spec__#\x6fpaque"),de P "__build_class__" 6 (vb "__build_class__"),de P "__import__" 7 (vb "__import__"),de P "abs" 8 (vb "abs"),de P "all" 9 (vb "all"),de P "any" 10 (vb "any"),de P "ascii" 11 (vb "ascii"),de P "bin" 12 (vb "bin"),de P "breakpoint" 13 (vb "breakpoint"),de P "callable" 14 (vb "callable"),de P "chr" 15 (vb "chr"),de P "compile" 16 (vb "compile"),de P "delattr" 17 (vb "delattr"),de P "dir" 18 (vb "dir"),de P "divmod" 19 (vb "divmod"),de P "eval" 20 (vb "eval"),de P "exec" 21 (vb "exec"),de P "format" 22 (vb "format"),de P "getattr" 23 (vb "getattr"),de P "globals" 24 (vb "globals"),de P "hasattr" 25 (vb "hasattr"),de P "hash" 26 (vb "hash"),de P "hex" 27 (vb "hex"),de P "id" 28 (vb "id"),de P "input" 29 (vb "input"),de P "isinstance" 30 (vb "isinstance"),de P "issubclass" 31 (vb "issubclass"),de P "iter" 32 (vb "iter"),de P "aiter" 33 (vb "aiter"),de P "len" 34 (vb "len"),de P "locals" 35 (vb "locals"),de P "max" 36 (vb "max"),de P "min" 37 (vb "min"),de P "next" 38 (vb "next"),de P "anext" 39 (vb "anext"),de P "oct" 40 (vb "oct"),de P "ord" 41 (vb "ord"),de P "pow" 42 (vb "pow"),de P "print" 43 (vb "print"),de P "repr" 44 (vb "repr"),de P "round" 45 (vb "round"),de P "setattr" 46 (vb "setattr"),de P "sorted" 47 (vb "sorted"),de P "sum" 48 (vb "sum"),de P "vars" 49 (vb "vars"),de P "None" 50 vn,de P "Ellipsis" 51 PySem.Value.ellipsis,de P "NotImplemented" 52 PySem.Value.notImplemented,de P "False" 53 vF,de P "True" 54 vT,de P "bool" 55 (vt "bool"),de P "memoryview" 56 (vt "memoryview"),de P "bytearray" 57 (vt "bytearray"),de P "bytes" 58 (vt "bytes"),de P "classmethod" 59 (vt "classmethod"),de P "complex" 60 (vt "complex"),de P "dict" 61 (vt "dict"),de P "enumerate" 62 (vt "enumerate"),de P "filter" 63 (vt "filter"),de P "float" 64 (vt "float"),de P "frozenset" 65 (vt "frozenset"),de P "property" 66 (vt "property"),de P "int" 67 (vt "int"),de P "list" 68 (vt "list"),de P "map" 69 (vt "map"),de P "object" 70 (vt "object"),de P "range" 71 (vt "range"),de P "reversed" 72 (vt "reversed"),de P "set" 73 (vt "set"),de P "slice" 74 (vt "slice"),de P "staticmethod" 75 (vt "staticmethod"),de P "str" 76 (vt "str"),de P "super" 77 (vt "super"),de P "tuple" 78 (vt "tuple"),de P "type" 79 (vt "type"),de P "zip" 80 (vt "zip"),de P "__debug__" 81 vT,de P "BaseException" 82 (vt "BaseException"),de P "BaseExceptionGroup" 83 (vt "BaseExceptionGroup"),de P "Exception" 84 (vt "Exception"),de P "GeneratorExit" 85 (vt "GeneratorExit"),de P "KeyboardInterrupt" 86 (vt "KeyboardInterrupt"),de P "SystemExit" 87 (vt "SystemExit"),de P "ArithmeticError" 88 (vt "ArithmeticError"),de P "AssertionError" 89 (vt "AssertionError"),de P "AttributeError" 90 (vt "AttributeError"),de P "BufferError" 91 (vt "BufferError"),de P "EOFError" 92 (vt "EOFError"),de P "ImportError" 93 (vt "ImportError"),de P "LookupError" 94 (vt "LookupError"),de P "MemoryError" 95 (vt "MemoryError"),de P "NameError" 96 (vt "NameError"),de P "OSError" 97 (vt "OSError"),de P "ReferenceError" 98 (vt "ReferenceError"),de P "RuntimeError" 99 (vt "RuntimeError"),de P "StopAsyncIteration" 100 (vt "StopAsyncIteration"),de P "StopIteration" 101 (vt "StopIteration"),de P "SyntaxError" 102 (vt "SyntaxError"),de P "SystemError" 103 (vt "SystemError"),de P "TypeError" 104 (vt "TypeError"),de P "ValueError" 105 (vt "ValueError"),de P "Warning" 106 (vt "Warning"),de P "FloatingPointError" 107 (vt "FloatingPointError"),de P "OverflowError" 108 (vt "OverflowError"),de P "ZeroDivisionError" 109 (vt "ZeroDivisionError"),de P "BytesWarning" 110 (vt "BytesWarning"),de P "DeprecationWarning" 111 (vt "DeprecationWarning"),de P "EncodingWarning" 112 (vt "EncodingWarning"),de P "FutureWarning" 113 (vt "FutureWarning"),de P "ImportWarning" 114 (vt "ImportWarning"),de P "PendingDeprecationWarning" 115 (vt "PendingDeprecationWarning"),de P "ResourceWarning" 116 (vt "ResourceWarning"),de P "RuntimeWarning" 117 (vt "RuntimeWarning"),de P "SyntaxWarning" 118 (vt "SyntaxWarning"),de P "UnicodeWarning" 119 (vt "UnicodeWarning"),de P "UserWarning" 120 (vt "UserWarning"),de P "BlockingIOError" 121 (vt "BlockingIOError"),de P "ChildProcessError" 122 (vt "ChildProcessError"),de P "ConnectionError" 123 (vt "ConnectionError"),de P "FileExistsError" 124 (vt "FileExistsError"),de P "FileNotFoundError" 125 (vt "FileNotFoundError"),de P "InterruptedError" 126 (vt "InterruptedError"),de P "IsADirectoryError" 127 (vt "IsADirectoryError"),de P "NotADirectoryError" 128 (vt "NotADirectoryError"),de P "PermissionError" 129 (vt "PermissionError"),de P "ProcessLookupError" 130 (vt "ProcessLookupError"),de P "TimeoutError" 131 (vt "TimeoutError"),de P "IndentationError" 132 (vt "IndentationError"),de P "_IncompleteInputError" 133 (vt "_IncompleteInputError"),de P "IndexError" 134 (vt "IndexError"),de P "KeyError" 135 (vt "KeyError"),de P "ModuleNotFoundError" 136 (vt "ModuleNotFoundError"),de P "NotImplementedError" 137 (vt "NotImplementedError"),de P "PythonFinalizationError" 138 (vt "PythonFinalizationError"),de P "RecursionError" 139 (vt "RecursionError"),de P "UnboundLocalError" 140 (vt "UnboundLocalError"),de P "UnicodeError" 141 (vt "UnicodeError"),de P "BrokenPipeError" 142 (vt "BrokenPipeError"),de P "ConnectionAbortedError" 143 (vt "ConnectionAbortedError"),de P "ConnectionRefusedError" 144 (vt "ConnectionRefusedError"),de P "ConnectionResetError" 145 (vt "ConnectionResetError"),de P "TabError" 146 (vt "TabError"),de P "UnicodeDecodeError" 147 (vt "UnicodeDecodeError"),de P "UnicodeEncodeError" 148 (vt "UnicodeEncodeError"),de P "UnicodeTranslateError" 149 (vt "UnicodeTranslateError"),de P "ExceptionGroup" 150 (vt "ExceptionGroup"),de P "EnvironmentError" 151 (vt "OSError"),de P "IOError" 152 (vt "OSError"),de P "open" 153 (vb "open"),de P "quit" 154 (vb "builtins.quit#\x6fpaque"),de P "exit" 155 (vb "builtins.exit#\x6fpaque"),de P "copyright" 156 (vb "builtins.copyright#\x6fpaque"),de P "credits" 157 (vb "builtins.credits#\x6fpaque"),de P "license" 158 (vb "builtins.license#\x6fpaque"),de P "help" 159 (vb "builtins.help#\x6fpaque")] 159) #[])
noncomputable def o1(P:Params):Obj:=(Obj.mk (vt "dict") none (Data.dict #[de P "builtins" 162 (vr 4),de P "__main__" 163 (vr 5),de P "_sre" 244 (vr 12)] 3) #[])
noncomputable def o2(P:Params):Obj:=(Obj.mk vn none (Data.dict #[de P "\x69mport.loaded._sre" 183 vT,de P "class._frozen_importlib.BuiltinImporter" 185 (vr 14),de P "watched.\x69mport" 206 (vr 18),de P "class._frozen_importlib.ModuleSpec" 216 (vr 22),de P "sys.modules.booked-epoch" 245 (i0 3),de P "\x69mport.later-laid._sre" 270 vT,de P "watched.library" 272 (vr 27),de P "watched.library-objects" 0 (vs "\x0c" 0),de P "watched.library-deep._sre" 273 (vs "\x04\x00\x00\x0b\x04\x00\x00\x0b\x04\x00\x00\x03\x04\x00\x00\x0b\x08\x04dict\x02" 0)] 9) #[])
noncomputable def o3(P:Params):Obj:=(Obj.mk (vt "dict") none (Data.dict #[de P "__name__" 165 vm,de P "__doc__" 166 vn,de P "__package__" 167 vn,de P "__loader__" 168 (vb "__main__.__loader__#\x6fpaque"),de P "__spec__" 169 vn,de P "__annotations__" 170 (vr 6),de P "__builtins__" 171 (vr 4),de P "__file__" 173 (vc 172),de P "__cached__" 174 vn,de P "_sre" 275 (vr 12)] 10) #[])
noncomputable def o4:Obj:=(Obj.mk (vt "module") (some 0) .plain #[])
noncomputable def o5:Obj:=(Obj.mk (vt "module") (some 3) .plain #[])
noncomputable def o6:Obj:=(Obj.mk (vt "dict") none (Data.dict #[] 0) #[])
noncomputable def o7:Obj:=tu []
noncomputable def o8:Obj:=fi vn []
noncomputable def o9:Obj:=fi (vt "code") [(vs "<module>" 176),(vs "<module>" 177),(vc 178),(i0 1),(i0 0),(i0 0),(i0 0),(i0 0),(vr 7),vF,(i0 175),(vr 8),vn,vn,vn,vn,(i0 179),(i0 1),(vc 180)]
noncomputable def VF:Obj:=(Obj.mk (vt "frame") none .plain #[(some (vr 9)),(some (vr 3)),(some (vr 3)),none,(some vm),none,(some (vr 0))])
noncomputable def lM(P:Params):Obj:=(Obj.mk (vt "dict") none (Data.dict #[de P "__name__" 247 (vs "_sre" 246),de P "__doc__" 248 vn,de P "__package__" 250 (vs "" 249),de P "__loader__" 251 (vr 14),de P "__spec__" 252 (vr 26),de P "compile" 253 (vb "_sre.compile"),de P "template" 254 (vb "_sre.template"),de P "getcodesize" 255 (vb "_sre.getcodesize"),de P "ascii_iscased" 256 (vb "_sre.ascii_iscased"),de P "unicode_iscased" 257 (vb "_sre.unicode_iscased"),de P "ascii_tolower" 258 (vb "_sre.ascii_tolower"),de P "unicode_tolower" 259 (vb "_sre.unicode_tolower"),de P "MAGIC" 261 (vi 20230612 260),de P "CODESIZE" 263 (vi 4 262),de P "MAXREPEAT" 265 (vi 4294967295 264),de P "MAXGROUPS" 267 (vi 1073741823 266),de P "copyright" 269 (vs " SRE 2.2.2 Copyright (c) 1997-2002 by Secret Labs AB " 268)] 17) #[])
noncomputable def VG:Obj:=(Obj.mk (vt "module") (some 11) .plain #[])
noncomputable def VI(P:Params):Obj:=(Obj.mk (vt "dict") none (Data.dict #[de P "__module__" 189 (vs "_frozen_importlib" 186),de P "__firstlineno__" 190 (vi 971 187),de P "__doc__" 191 (vb "_frozen_importlib.BuiltinImporter.__doc__:str#\x6fpaque"),de P "_ORIGIN" 192 (vs "built-in" 188),de P "find_spec" 193 (vb "_frozen_importlib.BuiltinImporter.find_spec#\x6fpaque"),de P "create_module" 194 (vb "_frozen_importlib.BuiltinImporter.create_module#\x6fpaque"),de P "exec_module" 195 (vb "_frozen_importlib.BuiltinImporter.exec_module#\x6fpaque"),de P "get_code" 196 (vb "_frozen_importlib.BuiltinImporter.get_code#\x6fpaque"),de P "get_source" 197 (vb "_frozen_importlib.BuiltinImporter.get_source#\x6fpaque"),de P "is_package" 198 (vb "_frozen_importlib.BuiltinImporter.is_package#\x6fpaque"),de P "load_module" 199 (vb "_frozen_importlib.BuiltinImporter.load_module#\x6fpaque"),de P "__static_attributes__" 200 (vr 15),de P "__dict__" 202 (vr 16),de P "__weakref__" 204 (vr 17)] 14) #[])
noncomputable def VJ:Obj:=(Obj.mk (vt "type") none (Data.cls (@PySem.ClassData.mk (so "BuiltinImporter") [(vt "object")] [(vr 14),(vt "object")] 13 (so "BuiltinImporter") Bool.true [] [] Bool.false none Bool.false)) #[])
noncomputable def CT:Obj:=fi (vt "getset_descriptor") [(vs "__dict__" 201),(vr 14),(vb "function.__dict__"),(vb "function.__dict__#set")]
noncomputable def CU:Obj:=fi (vt "getset_descriptor") [(vs "__weakref__" 203),(vr 14),(vb "ExceptionGroup.__weakref__"),vn]
noncomputable def VK:Obj:=(Obj.mk vn none (Data.seq #[(i0 13),(vs "\x06½\n__module__\x06º\x11_frozen_importlib\x06¾\x0f__firstlineno__\x04»\x00ϋ\x06¿\x07__doc__\t4_frozen_importlib.BuiltinImporter.__doc__:str#\x6fpaque\x06À\x07_ORIGIN\x06¼\x08built-in\x06Á\tfind_spec\t2_frozen_importlib.BuiltinImporter.find_spec#\x6fpaque\x06Â\x0dcreate_module\t6_frozen_importlib.BuiltinImporter.create_module#\x6fpaque\x06Ã\x0bexec_module\t4_frozen_importlib.BuiltinImporter.exec_module#\x6fpaque\x06Ä\x08get_code\t1_frozen_importlib.BuiltinImporter.get_code#\x6fpaque\x06Å\nget_source\t3_frozen_importlib.BuiltinImporter.get_source#\x6fpaque\x06Æ\nis_package\t3_frozen_importlib.BuiltinImporter.is_package#\x6fpaque\x06Ç\x0bload_module\t4_frozen_importlib.BuiltinImporter.load_module#\x6fpaque\x06È\x15__static_attributes__\x04\x00\x00\x0f\x06Ê\x08__dict__\x04\x00\x00\x10\x06Ì\x0b__weakref__\x04\x00\x00\x11" 0),vT,vT,(vs "" 205),(i0 21),(vs "\x06ã\n__module__\x06Ù\x11_frozen_importlib\x06ä\x0f__firstlineno__\x04Ú\x00Ȳ\x06å\x07__doc__\t/_frozen_importlib.ModuleSpec.__doc__:str#\x6fpaque\x06æ\x08__init__\t,_frozen_importlib.ModuleSpec.__init__#\x6fpaque\x06ç\x08__repr__\t,_frozen_importlib.ModuleSpec.__repr__#\x6fpaque\x06è\x06__eq__\t*_frozen_importlib.ModuleSpec.__eq__#\x6fpaque\x06é\x06cached\t*_frozen_importlib.ModuleSpec.cached#\x6fpaque\x06ê\x06parent\t*_frozen_importlib.ModuleSpec.parent#\x6fpaque\x06ë\x0chas_location\t0_frozen_importlib.ModuleSpec.has_location#\x6fpaque\x06ì\x15__static_attributes__\x04\x00\x00\x17\x06î\x08__dict__\x04\x00\x00\x18\x06ð\x0b__weakref__\x04\x00\x00\x19\x06ñ\x08__hash__\x00" 0),vT,vT,(vs "" 242)] 1) #[])
noncomputable def VL:Obj:=li []
noncomputable def VM(P:Params):Obj:=(Obj.mk (vt "dict") none (Data.dict #[de P "name" 208 (vs "_sre" 207),de P "loader" 209 (vr 14),de P "origin" 210 (vs "built-in" 184),de P "loader_state" 211 vn,de P "submodule_search_locations" 212 vn,de P "_uninitialized_submodules" 213 (vr 19),de P "_set_fileattr" 214 vF,de P "_cached" 215 vn,de P "_initializing" 243 vF] 9) #[])
noncomputable def VN(P:Params):Obj:=(Obj.mk (vt "dict") none (Data.dict #[de P "__module__" 227 (vs "_frozen_importlib" 217),de P "__firstlineno__" 228 (vi 562 218),de P "__doc__" 229 (vb "_frozen_importlib.ModuleSpec.__doc__:str#\x6fpaque"),de P "__init__" 230 (vb "_frozen_importlib.ModuleSpec.__init__#\x6fpaque"),de P "__repr__" 231 (vb "_frozen_importlib.ModuleSpec.__repr__#\x6fpaque"),de P "__eq__" 232 (vb "_frozen_importlib.ModuleSpec.__eq__#\x6fpaque"),de P "cached" 233 (vb "_frozen_importlib.ModuleSpec.cached#\x6fpaque"),de P "parent" 234 (vb "_frozen_importlib.ModuleSpec.parent#\x6fpaque"),de P "has_location" 235 (vb "_frozen_importlib.ModuleSpec.has_location#\x6fpaque"),de P "__static_attributes__" 236 (vr 23),de P "__dict__" 238 (vr 24),de P "__weakref__" 240 (vr 25),de P "__hash__" 241 vn] 13) #[])
noncomputable def VO:Obj:=(Obj.mk (vt "type") none (Data.cls (@PySem.ClassData.mk (so "ModuleSpec") [(vt "object")] [(vr 22),(vt "object")] 21 (so "ModuleSpec") Bool.true [] [] Bool.false none Bool.false)) #[])
noncomputable def VP:Obj:=tu (st 219 ["_cached","_set_fileattr","_uninitialized_submodules","loader","loader_state","name","origin","submodule_search_locations"])
noncomputable def VQ:Obj:=fi (vt "getset_descriptor") [(vs "__dict__" 237),(vr 22),(vb "function.__dict__"),(vb "function.__dict__#set")]
noncomputable def VS:Obj:=fi (vt "getset_descriptor") [(vs "__weakref__" 239),(vr 22),(vb "ExceptionGroup.__weakref__"),vn]
noncomputable def VT:Obj:=(Obj.mk (vr 22) (some 20) .plain #[])
noncomputable def VU:Obj:=(Obj.mk vn none (Data.seq #[(i0 11),(Value.str (@PySem.Str.mk #[6,247,8,95,95,110,97,109,101,95,95,6,246,4,95,115,114,101,6,248,7,95,95,100,111,99,95,95,0,6,250,11,95,95,112,97,99,107,97,103,101,95,95,6,249,0,6,251,10,95,95,108,111,97,100,101,114,95,95,4,0,0,14,6,252,8,95,95,115,112,101,99,95,95,4,0,0,26,6,253,7,99,111,109,112,105,108,101,9,12,95,115,114,101,46,99,111,109,112,105,108,101,6,254,8,116,101,109,112,108,97,116,101,9,13,95,115,114,101,46,116,101,109,112,108,97,116,101,6,255,11,103,101,116,99,111,100,101,115,105,122,101,9,16,95,115,114,101,46,103,101,116,99,111,100,101,115,105,122,101,6,256,13,97,115,99,105,105,95,105,115,99,97,115,101,100,9,18,95,115,114,101,46,97,115,99,105,105,95,105,115,99,97,115,101,100,6,257,15,117,110,105,99,111,100,101,95,105,115,99,97,115,101,100,9,20,95,115,114,101,46,117,110,105,99,111,100,101,95,105,115,99,97,115,101,100,6,258,13,97,115,99,105,105,95,116,111,108,111,119,101,114,9,18,95,115,114,101,46,97,115,99,105,105,95,116,111,108,111,119,101,114,6,259,15,117,110,105,99,111,100,101,95,116,111,108,111,119,101,114,9,20,95,115,114,101,46,117,110,105,99,111,100,101,95,116,111,108,111,119,101,114,6,261,5,77,65,71,73,67,4,260,0,20230612,6,263,8,67,79,68,69,83,73,90,69,4,262,0,4,6,265,9,77,65,88,82,69,80,69,65,84,4,264,0,4294967295,6,267,9,77,65,88,71,82,79,85,80,83,4,266,0,1073741823,6,269,9,99,111,112,121,114,105,103,104,116,6,268,53,32,83,82,69,32,50,46,50,46,50,32,67,111,112,121,114,105,103,104,116,32,40,99,41,32,49,57,57,55,45,50,48,48,50,32,98,121,32,83,101,99,114,101,116,32,76,97,98,115,32,65,66,32]) 0),vT,vF,(vs "_sre" 271)] 0) #[])
noncomputable def XD(P:Params):Obj:=(Obj.mk (vt "dict") none (Data.dict #[de P "__name__" 247 (vs "_sre" 246),de P "__doc__" 248 vn,de P "__package__" 250 (vs "" 249),de P "__loader__" 251 (vb "off-the-table:_sre.__loader__:shared#\x6fpaque"),de P "__spec__" 252 (vb "off-the-table:_sre.__spec__:shared#\x6fpaque"),de P "compile" 253 (vb "_sre.compile"),de P "template" 254 (vb "off-the-table:_sre.template:shared#\x6fpaque"),de P "getcodesize" 255 (vb "off-the-table:_sre.getcodesize:shared#\x6fpaque"),de P "ascii_iscased" 256 (vb "off-the-table:_sre.ascii_iscased:shared#\x6fpaque"),de P "unicode_iscased" 257 (vb "off-the-table:_sre.unicode_iscased:shared#\x6fpaque"),de P "ascii_tolower" 258 (vb "off-the-table:_sre.ascii_tolower:shared#\x6fpaque"),de P "unicode_tolower" 259 (vb "off-the-table:_sre.unicode_tolower:shared#\x6fpaque"),de P "MAGIC" 261 (vi 20230612 260),de P "CODESIZE" 263 (vi 4 262),de P "MAXREPEAT" 265 (vi 4294967295 264),de P "MAXGROUPS" 267 (vi 1073741823 266),de P "copyright" 269 (vs " SRE 2.2.2 Copyright (c) 1997-2002 by Secret Labs AB " 268)] 17) #[])
noncomputable def Zj:Obj:=fi (vt "code") [(vs "<module>" 277),(vs "<module>" 278),(vc 279),(i0 1),(i0 0),(i0 0),(i0 0),(i0 0),(vr 28),vF,(i0 276),(vr 29),vn,vn,vn,vn,(i0 280),(i0 1),(vc 281)]
noncomputable def Zk:Obj:=(Obj.mk (vt "frame") none .plain #[(some (vr 30)),(some (vr 3)),(some (vr 3)),none,(some vm),none,(some (vr 0))])
noncomputable def lN(P:Params):Obj:=(Obj.mk (vt "dict") none (Data.dict #[de P "__name__" 165 vp,de P "__doc__" 166 vn,de P "__package__" 167 vn,de P "__loader__" 168 (vb "__main__.__loader__#\x6fpaque"),de P "__spec__" 169 vn,de P "__annotations__" 170 (vr 6),de P "__builtins__" 171 (vr 4),de P "__file__" 173 (vc 172),de P "__cached__" 174 vn,de P "_sre" 275 (vr 12),de P "_wall" 288 (vr 38),de P "_twin_re_1" 504 (vr 43),de P "_twin_re_2" 548 (vr 48),de P "_twin_re_3" 823 (vr 53),de P "_twin_re_6" 853 (vr 58),de P "_twin_re_7" 877 (vr 63),de P "C_NONE" 886 (vi 0 881),de P "C_BACKSLASH" 887 (vi 1 882),de P "C_STRING_FIRST_LINE" 888 (vi 2 883),de P "C_STRING_NEXT_LINES" 889 (vi 3 884),de P "C_BRACKET" 890 (vi 4 885),de P "_synchre" 892 (vr 68),de P "_junkre" 894 (vr 69),de P "_match_stringre" 896 (vr 70),de P "_chew_ordinaryre" 898 (vr 71),de P "ParseMap" 926 (vr 88)] 26) #[])
noncomputable def km:Obj:=fi vn [(i0 2),(i0 0),(vr 37),(i0 16),(i0 0),(vr 77)]
noncomputable def c5:Obj:=tu [(vs "k" 285)]
noncomputable def fk:Obj:=fn vn "_wall" "_wall" (sT 1) 0 vn vn
noncomputable def c6:Obj:=cd "_wall" "_wall" 282 2 1 32 286
noncomputable def c7:Obj:=fn (vt "function") "_wall" "_wall" (sT 1) 3 vm (vr 37)
noncomputable def fm:Obj:=li (it 294 [14,4,0,3,4294967295,6,1,24,11,0,4294967295,13,6,16,32,16,9,0,1,7,13,16,119,16,104,16,105,16,108,16,101,15,173,11,16,101,16,108,16,115,16,101,15,162,9,16,100,16,101,16,102,15,153,15,16,114,16,101,16,116,16,117,16,114,16,110,15,138,15,16,97,16,115,16,115,16,101,16,114,16,116,15,123,13,16,98,16,114,16,101,16,97,16,107,15,110,13,16,99,16,108,16,97,16,115,16,115,15,97,19,16,99,16,111,16,110,16,116,16,105,16,110,16,117,16,101,15,78,11,16,101,16,108,16,105,16,102,15,67,9,16,116,16,114,16,121,15,58,15,16,101,16,120,16,99,16,101,16,112,16,116,15,43,13,16,114,16,97,16,105,16,115,16,101,15,30,15,16,105,16,109,16,112,16,111,16,114,16,116,15,15,13,16,121,16,105,16,101,16,108,16,100,15,2,0,6,10,1])
noncomputable def H9:Obj:=tu [vn]
noncomputable def c8:Obj:=tu (is [14,4,0,3,4294967295,6,1,24,11,0,4294967295,13,6,16,32,16,9,0,1,7,13,16,119,16,104,16,105,16,108,16,101,15,173,11,16,101,16,108,16,115,16,101,15,162,9,16,100,16,101,16,102,15,153,15,16,114,16,101,16,116,16,117,16,114,16,110,15,138,15,16,97,16,115,16,115,16,101,16,114,16,116,15,123,13,16,98,16,114,16,101,16,97,16,107,15,110,13,16,99,16,108,16,97,16,115,16,115,15,97,19,16,99,16,111,16,110,16,116,16,105,16,110,16,117,16,101,15,78,11,16,101,16,108,16,105,16,102,15,67,9,16,116,16,114,16,121,15,58,15,16,101,16,120,16,99,16,101,16,112,16,116,15,43,13,16,114,16,97,16,105,16,115,16,101,15,30,15,16,105,16,109,16,112,16,111,16,114,16,116,15,15,13,16,121,16,105,16,101,16,108,16,100,15,2,0,6,10,1])
noncomputable def c9:Obj:=fi (vt "re.Pattern") [(vs "\n    ^\n    [ \\t]*\n    (?: while\n    |   else\n    |   def\n    |   return\n    |   assert\n    |   break\n    |   class\n    |   continue\n    |   elif\n    |   try\n    |   except\n    |   raise\n    |   \x69mport\n    |   yield\n    )\n    \\b\n" 292),(vi 104 503),(i0 0),vn,vn,(vr 42),(i0 0)]
noncomputable def fo:Obj:=li (it 508 [14,4,0,1,4294967295,24,11,0,4294967295,13,6,16,32,16,9,0,1,23,16,0,1,16,35,13,4,8,13,0,24,5,0,4294967295,2,1,18,16,10,1])
noncomputable def da:Obj:=tu (is [14,4,0,1,4294967295,24,11,0,4294967295,13,6,16,32,16,9,0,1,23,16,0,1,16,35,13,4,8,13,0,24,5,0,4294967295,2,1,18,16,10,1])
noncomputable def df:Obj:=fi (vt "re.Pattern") [(vs "\n    [ \\t]*\n    (?: \\# \\S .* )?\n    \\n\n" 506),(vi 96 547),(i0 0),vn,vn,(vr 47),(i0 0)]
noncomputable def fq:Obj:=li (it 552 [14,9,4,1,4294967295,16,34,16,39,0,7,72,16,34,16,34,16,34,24,12,0,4294967295,13,7,21,16,34,16,92,0,1,23,37,0,4294967295,7,6,16,92,3,15,15,13,16,34,5,7,0,16,34,16,34,1,15,2,0,24,12,0,4294967295,13,7,21,16,34,16,92,0,1,18,23,9,0,1,16,34,16,34,16,34,18,15,186,56,16,34,24,17,0,4294967295,13,12,21,9,1024,4,268435456,0,0,0,0,0,0,1,23,24,0,4294967295,16,92,3,24,17,0,4294967295,13,12,21,9,1024,4,268435456,0,0,0,0,0,0,1,18,24,6,0,1,16,34,1,15,130,72,16,39,16,39,16,39,24,12,0,4294967295,13,7,21,16,39,16,92,0,1,23,37,0,4294967295,7,6,16,92,3,15,15,13,16,39,5,7,0,16,39,16,39,1,15,2,0,24,12,0,4294967295,13,7,21,16,39,16,92,0,1,18,23,9,0,1,16,39,16,39,16,39,18,15,58,56,16,39,24,17,0,4294967295,13,12,21,9,1024,128,268435456,0,0,0,0,0,0,1,23,24,0,4294967295,16,92,3,24,17,0,4294967295,13,12,21,9,1024,128,268435456,0,0,0,0,0,0,1,18,24,6,0,1,16,39,1,15,2,0,1])
noncomputable def dg:Obj:=tu (is [14,9,4,1,4294967295,16,34,16,39,0,7,72,16,34,16,34,16,34,24,12,0,4294967295,13,7,21,16,34,16,92,0,1,23,37,0,4294967295,7,6,16,92,3,15,15,13,16,34,5,7,0,16,34,16,34,1,15,2,0,24,12,0,4294967295,13,7,21,16,34,16,92,0,1,18,23,9,0,1,16,34,16,34,16,34,18,15,186,56,16,34,24,17,0,4294967295,13,12,21,9,1024,4,268435456,0,0,0,0,0,0,1,23,24,0,4294967295,16,92,3,24,17,0,4294967295,13,12,21,9,1024,4,268435456,0,0,0,0,0,0,1,18,24,6,0,1,16,34,1,15,130,72,16,39,16,39,16,39,24,12,0,4294967295,13,7,21,16,39,16,92,0,1,23,37,0,4294967295,7,6,16,92,3,15,15,13,16,39,5,7,0,16,39,16,39,1,15,2,0,24,12,0,4294967295,13,7,21,16,39,16,92,0,1,18,23,9,0,1,16,39,16,39,16,39,18,15,58,56,16,39,24,17,0,4294967295,13,12,21,9,1024,128,268435456,0,0,0,0,0,0,1,23,24,0,4294967295,16,92,3,24,17,0,4294967295,13,12,21,9,1024,128,268435456,0,0,0,0,0,0,1,18,24,6,0,1,16,39,1,15,2,0,1])
noncomputable def dh:Obj:=fi (vt "re.Pattern") [(vs "\n    \\\"\"\" [^\"\\\\]* (?:\n                     (?: \\\\. | \"(?!\"\") )\n                     [^\"\\\\]*\n                 )*\n    (?: \\\"\"\" )?\n\n|   \" [^\"\\\\\\n]* (?: \\\\. [^\"\\\\\\n]* )* \"?\n\n|   ''' [^'\\\\]* (?:\n                   (?: \\\\. | '(?!'') )\n                   [^'\\\\]*\n                )*\n    (?: ''' )?\n\n|   ' [^'\\\\\\n]* (?: \\\\. [^'\\\\\\n]* )* '?\n" 550),(vi 112 822),(i0 0),vn,vn,(vr 52),(i0 0)]
noncomputable def fu:Obj:=li (it 827 [14,4,0,1,4294967295,24,17,1,4294967295,13,12,21,9,0,908,939524096,671088640,0,0,0,0,0,1,1])
noncomputable def di:Obj:=tu (is [14,4,0,1,4294967295,24,17,1,4294967295,13,12,21,9,0,908,939524096,671088640,0,0,0,0,0,1,1])
noncomputable def dj:Obj:=fi (vt "re.Pattern") [(vs "\n    [^[\\](){}#'\"\\\\]+\n" 825),(vi 96 852),(i0 0),vn,vn,(vr 57),(i0 0)]
noncomputable def fv:Obj:=li (it 857 [14,4,0,1,4294967295,24,9,0,4294967295,13,4,8,12,0,1,16,92,1])
noncomputable def dl:Obj:=tu (is [14,4,0,1,4294967295,24,9,0,4294967295,13,4,8,12,0,1,16,92,1])
noncomputable def dm:Obj:=fi (vt "re.Pattern") [(vs "\\s*\\\\" 855),(vi 32 876),(i0 0),vn,vn,(vr 62),(i0 0)]
noncomputable def fw:Obj:=fi (vt "range") [(vi 0 879),(vi 5 878),(vi 1 880)]
noncomputable def fC:Obj:=fi (vt "range_iterator") (is [5,0,1])
noncomputable def fD:Obj:=fi (vt "StopIteration") [(vr 66),vn,vn,vn,vF,vn]
noncomputable def dp:Obj:=fi (vt "builtin_function_or_method") [(vb "re.Pattern.search"),(vr 43)]
noncomputable def dq:Obj:=fi (vt "builtin_function_or_method") [(vb "re.Pattern.match"),(vr 48)]
noncomputable def ds:Obj:=fi (vt "builtin_function_or_method") [(vb "re.Pattern.match"),(vr 53)]
noncomputable def dt:Obj:=fi (vt "builtin_function_or_method") [(vb "re.Pattern.match"),(vr 58)]
noncomputable def du:Obj:=tu [(vt "dict")]
noncomputable def dv:Obj:=fi (vt "builtin_function_or_method") [(vb "type.__prepare__"),(vt "type")]
noncomputable def fE(P:Params):Obj:=(Obj.mk (vt "dict") none (Data.dict #[de P "__module__" 906 vp,de P "__qualname__" 908 (vs "ParseMap" 907),de P "__firstlineno__" 910 (vi 16 909),de P "__missing__" 918 (vr 85),de P "__static_attributes__" 919 (vr 86)] 5) #[])
noncomputable def fF:Obj:=fi vn [(i0 18),(i0 4),(vr 84)]
noncomputable def fG:Obj:=fi (vt "code") [(vs "ParseMap" 901),(vs "ParseMap" 902),(vc 903),(i0 16),(i0 0),(i0 0),(i0 0),(i0 0),(vr 75),vF,(i0 276),(vr 76),vn,vn,vn,vn,(i0 904),(i0 16),(vc 905)]
noncomputable def fH:Obj:=(Obj.mk (vt "frame") none .plain #[(some (vr 77)),(some (vr 3)),(some (vr 74)),none,(some vp),none,(some (vr 0))])
noncomputable def dw:Obj:=tu (st 914 ["self","key"])
noncomputable def fJ:Obj:=fn vn "__missing__" "ParseMap.__missing__" (sC 13 0) 0 vn vn
noncomputable def dy:Obj:=cd "__missing__" "ParseMap.__missing__" 911 18 2 79 916
noncomputable def dz:Obj:=fn (vt "function") "__missing__" "ParseMap.__missing__" (sC 13 0) 3 vp (vr 84)
noncomputable def dA(P:Params):Obj:=(Obj.mk (vt "dict") none (Data.dict #[de P "__module__" 906 vp,de P "__firstlineno__" 910 (vi 16 909),de P "__missing__" 918 (vr 85),de P "__static_attributes__" 919 (vr 86),de P "__dict__" 921 (vr 89),de P "__weakref__" 923 (vr 90),de P "__doc__" 924 vn] 4) #[])
noncomputable def dB:Obj:=(Obj.mk (vt "type") none (Data.cls (@PySem.ClassData.mk (so "ParseMap") [(vt "dict")] [(vr 88),(vt "dict"),(vt "object")] 87 (so "ParseMap") Bool.true [] [] Bool.false none Bool.false)) #[(some (vr 72)),none,(some (vs "ParseMap" 899)),(some (vs "ParseMap" 907)),(some (vb "dict.__new__")),(some vT)])
noncomputable def dC:Obj:=fi (vt "getset_descriptor") [(vs "__dict__" 920),(vr 88),(vb "function.__dict__"),(vb "function.__dict__#set")]
noncomputable def dD:Obj:=fi (vt "getset_descriptor") [(vs "__weakref__" 922),(vr 88),(vb "ExceptionGroup.__weakref__"),vn]
noncomputable def fK:Obj:=fi (vt "super") [(vr 88),(vr 88),(vr 88)]
noncomputable def fL:Obj:=fi (vt "builtin_function_or_method") [(vb "object.__init_subclass__"),(vr 88)]
noncomputable def ko(P:Params):Obj:=(Obj.mk (vt "dict") none (Data.dict #[de P "__name__" 165 vp,de P "__doc__" 166 vn,de P "__package__" 167 vn,de P "__loader__" 168 (vb "__main__.__loader__#\x6fpaque"),de P "__spec__" 169 vn,de P "__annotations__" 170 (vr 6),de P "__builtins__" 171 (vr 4),de P "__file__" 173 (vc 172),de P "__cached__" 174 vn,de P "_sre" 275 (vr 12),de P "_wall" 288 (vr 38),de P "_twin_re_1" 504 (vr 43),de P "_twin_re_2" 548 (vr 48),de P "_twin_re_3" 823 (vr 53),de P "_twin_re_6" 853 (vr 58),de P "_twin_re_7" 877 (vr 63),de P "C_NONE" 886 (vi 0 881),de P "C_BACKSLASH" 887 (vi 1 882),de P "C_STRING_FIRST_LINE" 888 (vi 2 883),de P "C_STRING_NEXT_LINES" 889 (vi 3 884),de P "C_BRACKET" 890 (vi 4 885),de P "_synchre" 892 (vr 68),de P "_junkre" 894 (vr 69),de P "_match_stringre" 896 (vr 70),de P "_chew_ordinaryre" 898 (vr 71),de P "ParseMap" 926 (vr 88),de P "trans" 1188 (vr 96)] 27) #[])
noncomputable def hR:Obj:=fi (vt "builtin_function_or_method") [(vb "dict.fromkeys"),(vr 88)]
noncomputable def hU:Obj:=fi (vt "range") [(vi 0 929),(vi 128 928),(vi 1 930)]
noncomputable def lO:Obj:=(Obj.mk (vr 88) (some 95) (Data.dict #[dx 0,dx 1,dx 2,dx 3,dx 4,dx 5,dx 6,dx 7,dx 8,dx 9,dx 10,dx 11,dx 12,dx 13,dx 14,dx 15,dx 16,dx 17,dx 18,dx 19,dx 20,dx 21,dx 22,dx 23,dx 24,dx 25,dx 26,dx 27,dx 28,dx 29,dx 30,dx 31,dx 32,dx 33,dx 34,dx 35,dx 36,dx 37,dx 38,dx 39,dx 40,dx 41,dx 42,dx 43,dx 44,dx 45,dx 46,dx 47,dx 48,dx 49,dx 50,dx 51,dx 52,dx 53,dx 54,dx 55,dx 56,dx 57,dx 58,dx 59,dx 60,dx 61,dx 62,dx 63,dx 64,dx 65,dx 66,dx 67,dx 68,dx 69,dx 70,dx 71,dx 72,dx 73,dx 74,dx 75,dx 76,dx 77,dx 78,dx 79,dx 80,dx 81,dx 82,dx 83,dx 84,dx 85,dx 86,dx 87,dx 88,dx 89,dx 90,dx 91,dx 92,dx 93,dx 94,dx 95,dx 96,dx 97,dx 98,dx 99,dx 100,dx 101,dx 102,dx 103,dx 104,dx 105,dx 106,dx 107,dx 108,dx 109,dx 110,dx 111,dx 112,dx 113,dx 114,dx 115,dx 116,dx 117,dx 118,dx 119,dx 120,dx 121,dx 122,dx 123,dx 124,dx 125,dx 126,dx 127] 128) #[])
noncomputable def hW:Obj:=fi (vt "range_iterator") (is [128,0,1])
noncomputable def ig:Obj:=fi (vt "StopIteration") [(vr 98),vn,vn,vn,vF,vn]
noncomputable def lP:Obj:=fi vn [(i0 2),(i0 0),(vr 37),(i0 16),(i0 0),(vr 77),(i0 21),(i0 13),(vr 103),(i0 22),(i0 13),(vr 118),(i0 23),(i0 13),(vr 133)]
noncomputable def ij:Obj:=(Obj.mk (vr 88) (some 95) (Data.dict #[dx 0,dx 1,dx 2,dx 3,dx 4,dx 5,dx 6,dx 7,dx 8,dx 9,dn 10 10 952 10 1279,dx 11,dx 12,dx 13,dx 14,dx 15,dx 16,dx 17,dx 18,dx 19,dx 20,dx 21,dx 22,dx 23,dx 24,dx 25,dx 26,dx 27,dx 28,dx 29,dx 30,dx 31,dx 32,dx 33,dn 34 34 1000 34 1264,dn 35 35 1002 35 1284,dx 36,dx 37,dx 38,dn 39 39 1010 39 1269,dn 40 40 1012 40 1205,dn 41 41 1014 41 1235,dx 42,dx 43,dx 44,dx 45,dx 46,dx 47,dx 48,dx 49,dx 50,dx 51,dx 52,dx 53,dx 54,dx 55,dx 56,dx 57,dx 58,dx 59,dx 60,dx 61,dx 62,dx 63,dx 64,dx 65,dx 66,dx 67,dx 68,dx 69,dx 70,dx 71,dx 72,dx 73,dx 74,dx 75,dx 76,dx 77,dx 78,dx 79,dx 80,dx 81,dx 82,dx 83,dx 84,dx 85,dx 86,dx 87,dx 88,dx 89,dx 90,dn 91 91 1114 40 1217,dn 92 92 1116 92 1274,dn 93 93 1118 41 1247,dx 94,dx 95,dx 96,dx 97,dx 98,dx 99,dx 100,dx 101,dx 102,dx 103,dx 104,dx 105,dx 106,dx 107,dx 108,dx 109,dx 110,dx 111,dx 112,dx 113,dx 114,dx 115,dx 116,dx 117,dx 118,dx 119,dx 120,dx 121,dx 122,dn 123 123 1178 40 1211,dx 124,dn 125 125 1182 41 1241,dx 126,dx 127] 128) #[])
noncomputable def fM:Obj:=fi (vt "str_ascii_iterator") [vn,(i0 3)]
noncomputable def kq:Obj:=fi (vt "code") [(vs "<genexpr>" 1190),(vs "<genexpr>" 1191),(vc 1192),(i0 21),(i0 1),(i0 0),(i0 0),(i0 35),(vr 101),vT,(i0 276),(vr 102),vn,vn,vn,vn,(i0 1193),(i0 21),(vc 1194)]
noncomputable def kr(P:Params):Obj:=(Obj.mk (vt "frame") none (Data.dict #[de P ".0" 1195 (vr 100),de P "c" 1202 (vs "[" 1213)] 2) #[])
noncomputable def ks:Obj:=fi (vt "generator") [(i0 0),(vs "<genexpr>" 1196),(vs "<genexpr>" 1197)]
noncomputable def kt:Obj:=tu [(vs "'generator' object has no \x61ttribute 'keys'" 1199)]
noncomputable def ku:Obj:=fi (vt "AttributeError") [(vr 106),vn,vn,vn,vF,vn,(vs "keys" 1200),(vr 105)]
noncomputable def kv:Obj:=tu [(vi 40 1203),(vi 40 1205)]
noncomputable def kx:Obj:=tu [(vi 123 1209),(vi 40 1211)]
noncomputable def ky:Obj:=tu [(vi 91 1215),(vi 40 1217)]
noncomputable def kz:Obj:=fi (vt "StopIteration") [(vr 111),vn,vn,vn,vF,vn]
noncomputable def kA:Obj:=fi (vt "StopIteration") [(vr 113),vn,vn,vn,vF,vn]
noncomputable def kB:Obj:=fi (vt "code") [(vs "<genexpr>" 1220),(vs "<genexpr>" 1221),(vc 1222),(i0 22),(i0 1),(i0 0),(i0 0),(i0 35),(vr 116),vT,(i0 276),(vr 117),vn,vn,vn,vn,(i0 1223),(i0 22),(vc 1224)]
noncomputable def kC(P:Params):Obj:=(Obj.mk (vt "frame") none (Data.dict #[de P ".0" 1225 (vr 115),de P "c" 1232 (vs "]" 1243)] 2) #[])
noncomputable def kD:Obj:=fi (vt "generator") [(i0 1),(vs "<genexpr>" 1226),(vs "<genexpr>" 1227)]
noncomputable def kE:Obj:=tu [(vs "'generator' object has no \x61ttribute 'keys'" 1229)]
noncomputable def kF:Obj:=fi (vt "AttributeError") [(vr 121),vn,vn,vn,vF,vn,(vs "keys" 1230),(vr 120)]
noncomputable def kG:Obj:=tu [(vi 41 1233),(vi 41 1235)]
noncomputable def aH:Obj:=tu [(vi 125 1239),(vi 41 1241)]
noncomputable def aI:Obj:=tu [(vi 93 1245),(vi 41 1247)]
noncomputable def aJ:Obj:=fi (vt "StopIteration") [(vr 126),vn,vn,vn,vF,vn]
noncomputable def aK:Obj:=fi (vt "StopIteration") [(vr 128),vn,vn,vn,vF,vn]
noncomputable def aL:Obj:=fi (vt "str_ascii_iterator") [vn,(i0 5)]
noncomputable def aM:Obj:=fi (vt "code") [(vs "<genexpr>" 1250),(vs "<genexpr>" 1251),(vc 1252),(i0 23),(i0 1),(i0 0),(i0 0),(i0 35),(vr 131),vT,(i0 276),(vr 132),vn,vn,vn,vn,(i0 1253),(i0 23),(vc 1254)]
noncomputable def aN(P:Params):Obj:=(Obj.mk (vt "frame") none (Data.dict #[de P ".0" 1255 (vr 130),de P "c" 1262 (vs "#" 1281)] 2) #[])
noncomputable def aO:Obj:=fi (vt "generator") [(i0 2),(vs "<genexpr>" 1256),(vs "<genexpr>" 1257)]
noncomputable def aP:Obj:=tu [(vs "'generator' object has no \x61ttribute 'keys'" 1259)]
noncomputable def aQ:Obj:=fi (vt "AttributeError") [(vr 136),vn,vn,vn,vF,vn,(vs "keys" 1260),(vr 135)]
noncomputable def aR:Obj:=tu [(vi 34 1263),(vi 34 1264)]
noncomputable def aU:Obj:=tu [(vi 39 1268),(vi 39 1269)]
noncomputable def aV:Obj:=tu [(vi 92 1273),(vi 92 1274)]
noncomputable def aW:Obj:=tu [(vi 10 1278),(vi 10 1279)]
noncomputable def aX:Obj:=tu [(vi 35 1283),(vi 35 1284)]
noncomputable def aY:Obj:=fi (vt "StopIteration") [(vr 143),vn,vn,vn,vF,vn]
noncomputable def aZ:Obj:=fi (vt "StopIteration") [(vr 145),vn,vn,vn,vF,vn]
noncomputable def a0(P:Params):Obj:=(Obj.mk (vt "dict") none (Data.dict #[de P "__name__" 165 (vs "law_km0029_02" 1463),de P "__doc__" 166 vn,de P "__package__" 167 vn,de P "__loader__" 168 (vb "__main__.__loader__#\x6fpaque"),de P "__spec__" 169 vn,de P "__annotations__" 170 (vr 6),de P "__builtins__" 171 (vr 4),de P "__file__" 173 (vc 172),de P "__cached__" 174 vn,de P "_sre" 275 (vr 12),de P "_wall" 288 (vr 38),de P "_twin_re_1" 504 (vr 43),de P "_twin_re_2" 548 (vr 48),de P "_twin_re_3" 823 (vr 53),de P "_twin_re_6" 853 (vr 58),de P "_twin_re_7" 877 (vr 63),de P "C_NONE" 886 (vi 0 881),de P "C_BACKSLASH" 887 (vi 1 882),de P "C_STRING_FIRST_LINE" 888 (vi 2 883),de P "C_STRING_NEXT_LINES" 889 (vi 3 884),de P "C_BRACKET" 890 (vi 4 885),de P "_synchre" 892 (vr 68),de P "_junkre" 894 (vr 69),de P "_match_stringre" 896 (vr 70),de P "_chew_ordinaryre" 898 (vr 71),de P "ParseMap" 926 (vr 88),de P "trans" 1188 (vr 96),de P "Parser" 1462 (vr 254),de P "_law_items" 1483 (vr 289),de P "_law_lasts" 1489 (vr 296),de P "_law_width" 1499 (vr 303),de P "law" 1522 (vr 310)] 32) #[])
noncomputable def gH:Obj:=fi vn [(i0 2),(i0 0),(vr 37),(i0 16),(i0 0),(vr 77),(i0 21),(i0 13),(vr 103),(i0 22),(i0 13),(vr 118),(i0 23),(i0 13),(vr 133),(i0 24),(i0 0),(vr 152),(i0 288),(i0 0),(vr 295),(i0 290),(i0 0),(vr 302),(i0 295),(i0 0),(vr 309)]
noncomputable def gI(P:Params):Obj:=(Obj.mk (vt "dict") none (Data.dict #[de P "__module__" 1293 vp,de P "__qualname__" 1295 (vs "Parser" 1294),de P "__firstlineno__" 1297 (vi 24 1296),de P "__init__" 1306 (vr 160),de P "set_code" 1314 (vr 167),de P "find_good_parse_start" 1329 (vr 174),de P "set_lo" 1337 (vr 181),de P "_study1" 1356 (vr 188),de P "get_continuation_type" 1363 (vr 195),de P "_study2" 1383 (vr 202),de P "compute_bracket_indent" 1390 (vr 209),de P "get_num_lines_in_stmt" 1397 (vr 216),de P "compute_backslash_indent" 1411 (vr 223),de P "get_base_indent_string" 1422 (vr 230),de P "is_block_opener" 1429 (vr 237),de P "is_block_closer" 1436 (vr 244),de P "get_last_stmt_bracketing" 1443 (vr 251),de P "__static_attributes__" 1455 (vr 252)] 18) #[])
noncomputable def gJ:Obj:=fi vn [(i0 26),(i0 4),(vr 159),(i0 30),(i0 4),(vr 166),(i0 35),(i0 4),(vr 173),(i0 60),(i0 4),(vr 180),(i0 65),(i0 4),(vr 187),(i0 150),(i0 4),(vr 194),(i0 153),(i0 4),(vr 201),(i0 226),(i0 4),(vr 208),(i0 229),(i0 4),(vr 215),(i0 232),(i0 4),(vr 222),(i0 269),(i0 4),(vr 229),(i0 278),(i0 4),(vr 236),(i0 281),(i0 4),(vr 243),(i0 284),(i0 4),(vr 250)]
noncomputable def gK:Obj:=fi (vt "code") [(vs "Parser" 1288),(vs "Parser" 1289),(vc 1290),(i0 24),(i0 0),(i0 0),(i0 0),(i0 0),(vr 150),vF,(i0 276),(vr 151),vn,vn,vn,vn,(i0 1291),(i0 24),(vc 1292)]
noncomputable def gL:Obj:=(Obj.mk (vt "frame") none .plain #[(some (vr 152)),(some (vr 3)),(some (vr 149)),none,(some vp),none,(some (vr 0))])
noncomputable def a6:Obj:=tu (st 1301 ["self","indentwidth","tabwidth"])
noncomputable def gM:Obj:=fn vn "__init__" "Parser.__init__" (sC 18 0) 0 vn vn
noncomputable def a7:Obj:=cd "__init__" "Parser.__init__" 1298 26 3 154 1304
noncomputable def a8:Obj:=fn (vt "function") "__init__" "Parser.__init__" (sC 18 0) 3 vp (vr 159)
noncomputable def a9:Obj:=tu (st 1310 ["self","s"])
noncomputable def gN:Obj:=fn vn "set_code" "Parser.set_code" (sC 18 1) 0 vn vn
noncomputable def ba:Obj:=cd "set_code" "Parser.set_code" 1307 30 2 161 1312
noncomputable def bc:Obj:=fn (vt "function") "set_code" "Parser.set_code" (sC 18 1) 3 vp (vr 166)
noncomputable def be:Obj:=tu (st 1318 ["self","is_char_in_string","code","pos","limit","tries","i","m","s"])
noncomputable def gO:Obj:=fn vn "find_good_parse_start" "Parser.find_good_parse_start" (sC 18 2) 0 vn vn
noncomputable def bf:Obj:=cd "find_good_parse_start" "Parser.find_good_parse_start" 1315 35 2 168 1327
noncomputable def bh:Obj:=fn (vt "function") "find_good_parse_start" "Parser.find_good_parse_start" (sC 18 2) 3 vp (vr 173)
noncomputable def bj:Obj:=tu (st 1333 ["self","lo"])
noncomputable def gP:Obj:=fn vn "set_lo" "Parser.set_lo" (sC 18 3) 0 vn vn
noncomputable def bk:Obj:=cd "set_lo" "Parser.set_lo" 1330 60 2 175 1335
noncomputable def bm:Obj:=fn (vt "function") "set_lo" "Parser.set_lo" (sC 18 3) 3 vp (vr 180)
noncomputable def bo:Obj:=tu (st 1341 ["self","code","continuation","level","lno","goodlines","push_good","i","n","ch","quote","firstlno","w"])
noncomputable def gQ:Obj:=fn vn "_study1" "Parser._study1" (sC 18 4) 0 vn vn
noncomputable def bp:Obj:=cd "_study1" "Parser._study1" 1338 65 1 182 1354
noncomputable def bq:Obj:=fn (vt "function") "_study1" "Parser._study1" (sC 18 4) 3 vp (vr 187)
noncomputable def bu:Obj:=tu [(vs "self" 1360)]
noncomputable def gR:Obj:=fn vn "get_continuation_type" "Parser.get_continuation_type" (sC 18 5) 0 vn vn
noncomputable def bw:Obj:=cd "get_continuation_type" "Parser.get_continuation_type" 1357 150 1 189 1361
noncomputable def bx:Obj:=fn (vt "function") "get_continuation_type" "Parser.get_continuation_type" (sC 18 5) 3 vp (vr 194)
noncomputable def bz:Obj:=tu (st 1367 ["self","code","goodlines","i","p","q","nothing","lastch","stack","push_stack","bracketing","m","newp","ch"])
noncomputable def gS:Obj:=fn vn "_study2" "Parser._study2" (sC 18 6) 0 vn vn
noncomputable def bA:Obj:=cd "_study2" "Parser._study2" 1364 153 1 196 1381
noncomputable def bB:Obj:=fn (vt "function") "_study2" "Parser._study2" (sC 18 6) 3 vp (vr 201)
noncomputable def bC:Obj:=tu [(vs "self" 1387)]
noncomputable def gT:Obj:=(Obj.mk vn none (Data.func (@PySem.FuncData.mk (so "compute_bracket_indent") (so "Parser.compute_bracket_indent") (fA (sC 18 7)) (@PySem.FuncBody.stmts (fB (sC 18 7))) (fS (sC 18 5)) 0 [] vn vn vn vn none vn vn 0)) #[])
noncomputable def bD:Obj:=cd "compute_bracket_indent" "Parser.compute_bracket_indent" 1384 226 1 203 1388
noncomputable def bF:Obj:=(Obj.mk (vt "function") none (Data.func (@PySem.FuncData.mk (so "compute_bracket_indent") (so "Parser.compute_bracket_indent") (fA (sC 18 7)) (@PySem.FuncBody.stmts (fB (sC 18 7))) (fS (sC 18 5)) 3 [] vn vn vn vp none (vr 208) vn 0)) #[])
noncomputable def bG:Obj:=tu [(vs "self" 1394)]
noncomputable def gU:Obj:=(Obj.mk vn none (Data.func (@PySem.FuncData.mk (so "get_num_lines_in_stmt") (so "Parser.get_num_lines_in_stmt") (fA (sC 18 8)) (@PySem.FuncBody.stmts (fB (sC 18 8))) (fS (sC 18 5)) 0 [] vn vn vn vn none vn vn 0)) #[])
noncomputable def bH:Obj:=cd "get_num_lines_in_stmt" "Parser.get_num_lines_in_stmt" 1391 229 1 210 1395
noncomputable def bI:Obj:=(Obj.mk (vt "function") none (Data.func (@PySem.FuncData.mk (so "get_num_lines_in_stmt") (so "Parser.get_num_lines_in_stmt") (fA (sC 18 8)) (@PySem.FuncBody.stmts (fB (sC 18 8))) (fS (sC 18 5)) 3 [] vn vn vn vp none (vr 215) vn 0)) #[])
noncomputable def bJ:Obj:=tu (st 1401 ["self","code","i","startpos","endpos","found","level","ch"])
noncomputable def gV:Obj:=fn vn "compute_backslash_indent" "Parser.compute_backslash_indent" (sC 18 9) 0 vn vn
noncomputable def bK:Obj:=cd "compute_backslash_indent" "Parser.compute_backslash_indent" 1398 232 1 217 1409
noncomputable def bL:Obj:=fn (vt "function") "compute_backslash_indent" "Parser.compute_backslash_indent" (sC 18 9) 3 vp (vr 222)
noncomputable def bM:Obj:=tu (st 1415 ["self","i","n","j","code"])
noncomputable def gW:Obj:=fn vn "get_base_indent_string" "Parser.get_base_indent_string" (sC 18 10) 0 vn vn
noncomputable def bO:Obj:=cd "get_base_indent_string" "Parser.get_base_indent_string" 1412 269 1 224 1420
noncomputable def bP:Obj:=fn (vt "function") "get_base_indent_string" "Parser.get_base_indent_string" (sC 18 10) 3 vp (vr 229)
noncomputable def bQ:Obj:=tu [(vs "self" 1426)]
noncomputable def gX:Obj:=(Obj.mk vn none (Data.func (@PySem.FuncData.mk (so "is_block_opener") (so "Parser.is_block_opener") (fA (sC 18 11)) (@PySem.FuncBody.stmts (fB (sC 18 11))) (fS (sC 18 5)) 0 [] vn vn vn vn none vn vn 0)) #[])
noncomputable def bR:Obj:=cd "is_block_opener" "Parser.is_block_opener" 1423 278 1 231 1427
noncomputable def bS:Obj:=(Obj.mk (vt "function") none (Data.func (@PySem.FuncData.mk (so "is_block_opener") (so "Parser.is_block_opener") (fA (sC 18 11)) (@PySem.FuncBody.stmts (fB (sC 18 11))) (fS (sC 18 5)) 3 [] vn vn vn vp none (vr 236) vn 0)) #[])
noncomputable def bT:Obj:=tu [(vs "self" 1433)]
noncomputable def gY:Obj:=(Obj.mk vn none (Data.func (@PySem.FuncData.mk (so "is_block_closer") (so "Parser.is_block_closer") (fA (sC 18 12)) (@PySem.FuncBody.stmts (fB (sC 18 12))) (fS (sC 18 5)) 0 [] vn vn vn vn none vn vn 0)) #[])
noncomputable def bU:Obj:=cd "is_block_closer" "Parser.is_block_closer" 1430 281 1 238 1434
noncomputable def bV:Obj:=(Obj.mk (vt "function") none (Data.func (@PySem.FuncData.mk (so "is_block_closer") (so "Parser.is_block_closer") (fA (sC 18 12)) (@PySem.FuncBody.stmts (fB (sC 18 12))) (fS (sC 18 5)) 3 [] vn vn vn vp none (vr 243) vn 0)) #[])
noncomputable def bW:Obj:=tu [(vs "self" 1440)]
noncomputable def gZ:Obj:=(Obj.mk vn none (Data.func (@PySem.FuncData.mk (so "get_last_stmt_bracketing") (so "Parser.get_last_stmt_bracketing") (fA (sC 18 13)) (@PySem.FuncBody.stmts (fB (sC 18 13))) (fS (sC 18 5)) 0 [] vn vn vn vn none vn vn 0)) #[])
noncomputable def bX:Obj:=cd "get_last_stmt_bracketing" "Parser.get_last_stmt_bracketing" 1437 284 1 245 1441
noncomputable def bZ:Obj:=(Obj.mk (vt "function") none (Data.func (@PySem.FuncData.mk (so "get_last_stmt_bracketing") (so "Parser.get_last_stmt_bracketing") (fA (sC 18 13)) (@PySem.FuncBody.stmts (fB (sC 18 13))) (fS (sC 18 5)) 3 [] vn vn vn vp none (vr 250) vn 0)) #[])
noncomputable def b0:Obj:=tu (st 1444 ["code","continuation","goodlines","indentwidth","lastch","lastopenbracketpos","stmt_bracketing","stmt_end","stmt_start","study_level","tabwidth"])
noncomputable def b5(P:Params):Obj:=(Obj.mk (vt "dict") none (Data.dict #[de P "__module__" 1293 vp,de P "__firstlineno__" 1297 (vi 24 1296),de P "__init__" 1306 (vr 160),de P "set_code" 1314 (vr 167),de P "find_good_parse_start" 1329 (vr 174),de P "set_lo" 1337 (vr 181),de P "_study1" 1356 (vr 188),de P "get_continuation_type" 1363 (vr 195),de P "_study2" 1383 (vr 202),de P "compute_bracket_indent" 1390 (vr 209),de P "get_num_lines_in_stmt" 1397 (vr 216),de P "compute_backslash_indent" 1411 (vr 223),de P "get_base_indent_string" 1422 (vr 230),de P "is_block_opener" 1429 (vr 237),de P "is_block_closer" 1436 (vr 244),de P "get_last_stmt_bracketing" 1443 (vr 251),de P "__static_attributes__" 1455 (vr 252),de P "__dict__" 1457 (vr 255),de P "__weakref__" 1459 (vr 256),de P "__doc__" 1460 vn] 4) #[])
noncomputable def b6:Obj:=(Obj.mk (vt "type") none (Data.cls (@PySem.ClassData.mk (so "Parser") [(vt "object")] [(vr 254),(vt "object")] 253 (so "Parser") Bool.true [] [] Bool.false none Bool.false)) #[none,none,(some (vs "Parser" 1286)),(some (vs "Parser" 1294)),(some (vb "object.__new__")),(some vT)])
noncomputable def b7:Obj:=fi (vt "getset_descriptor") [(vs "__dict__" 1456),(vr 254),(vb "function.__dict__"),(vb "function.__dict__#set")]
noncomputable def b8:Obj:=fi (vt "getset_descriptor") [(vs "__weakref__" 1458),(vr 254),(vb "ExceptionGroup.__weakref__"),vn]
noncomputable def g7:Obj:=fi (vt "super") [(vr 254),(vr 254),(vr 254)]
noncomputable def g8:Obj:=fi (vt "builtin_function_or_method") [(vb "object.__init_subclass__"),(vr 254)]
noncomputable def b9:Obj:=tu [(vs "while a:\n" 1465),vF]
noncomputable def cb:Obj:=li [(vr 259)]
noncomputable def ce:Obj:=tu [(vs "    b = c\n" 1466),vF]
noncomputable def cf:Obj:=li [(vr 261)]
noncomputable def cg:Obj:=tu [(vs "def f(a,\n      b):\n" 1467),vF]
noncomputable def ci:Obj:=li [(vr 263)]
noncomputable def cj:Obj:=tu [(vs "    return " 1468),vF]
noncomputable def ck:Obj:=tu [(vs "'''\nelse:\n'''" 1469),vT]
noncomputable def cp:Obj:=tu [(vs "\n" 1470),vF]
noncomputable def cq:Obj:=li [(vr 265),(vr 266),(vr 267)]
noncomputable def cr:Obj:=tu [(vs "#x = y\n" 1471),vF]
noncomputable def cu:Obj:=li [(vr 269)]
noncomputable def cx:Obj:=tu [(vs "class C:\n" 1472),vF]
noncomputable def cz:Obj:=li [(vr 271)]
noncomputable def cA:Obj:=tu [(vs "x = " 1473),vF]
noncomputable def cB:Obj:=tu [(vs "\"\"\"def g():\n\"\"\"" 1474),vT]
noncomputable def cC:Obj:=tu [(vs "\n" 1475),vF]
noncomputable def cD:Obj:=li [(vr 273),(vr 274),(vr 275)]
noncomputable def cF:Obj:=tu [(vs "\n" 1476),vF]
noncomputable def cG:Obj:=li [(vr 277)]
noncomputable def cH:Obj:=tu [(vs "try:\n" 1477),vF]
noncomputable def cI:Obj:=li [(vr 279)]
noncomputable def cJ:Obj:=tu [(vs "y = a \\\n  + b\n" 1478),vF]
noncomputable def cK:Obj:=li [(vr 281)]
noncomputable def cL:Obj:=tu [(vs "\tyield a\n" 1479),vF]
noncomputable def cM:Obj:=li [(vr 283)]
noncomputable def cN:Obj:=tu [(vs "s = " 1480),vF]
noncomputable def cO:Obj:=tu [(vs "'''\n  raise b\n\ttry:\n'''" 1481),vT]
noncomputable def cP:Obj:=tu [(vs "\n" 1482),vF]
noncomputable def cQ:Obj:=li [(vr 285),(vr 286),(vr 287)]
noncomputable def cR:Obj:=li [(vr 260),(vr 262),(vr 264),(vr 268),(vr 270),(vr 272),(vr 276),(vr 278),(vr 280),(vr 282),(vr 284),(vr 288)]
noncomputable def g9:Obj:=fn vn "_law_lasts" "_law_lasts" (sT 21) 0 vn vn
noncomputable def cS:Obj:=cd "_law_lasts" "_law_lasts" 1484 288 0 290 1487
noncomputable def cT:Obj:=fn (vt "function") "_law_lasts" "_law_lasts" (sT 21) 3 (vs "law_km0029_02" 1463) (vr 295)
noncomputable def cU:Obj:=tu (st 1493 ["text","tab","column","sign"])
noncomputable def hH:Obj:=fn vn "_law_width" "_law_width" (sT 22) 0 vn vn
noncomputable def cV:Obj:=cd "_law_width" "_law_width" 1490 290 2 297 1497
noncomputable def cW:Obj:=fn (vt "function") "_law_width" "_law_width" (sT 22) 3 (vs "law_km0029_02" 1463) (vr 302)
noncomputable def cX:Obj:=tu (st 1503 ["script","text","starts","x","part","flag","total","left","right","white","tab","due","parser","found","low","told"])
noncomputable def cY:Obj:=tu [(vs "inside" 1519)]
noncomputable def hO:Obj:=fn vn "law" "law" (sT 23) 0 vn vn
noncomputable def cZ:Obj:=cd "law" "law" 1500 295 1 304 1520
noncomputable def c4:Obj:=fn (vt "function") "law" "law" (sT 23) 3 (vs "law_km0029_02" 1463) (vr 309)
noncomputable def kS(P:Params):BT:=(N (o0 P) (N (o1 P) (N (o3 P) (N o7 (L o7) (L VP)) (N (lM P) (L VL) (L VU))) (N o5 (N o9 (L CU) (L VS)) (N (VI P) (L (VN P)) Z))) (N (o2 P) (N o4 (N o8 (L CT) (L VQ)) (N VG (L (VM P)) Z)) (N o6 (N VF (L VK) (L VT)) (N VJ (L VO) Z))))
noncomputable def SU(P:Params):BT:=(N (o0 P) (N (o1 P) (N (o3 P) (N o7 (L o7) (L VP)) (N (XD P) (L VL) (L VU))) (N o5 (N o9 (L CU) (L VS)) (N (VI P) (L (VN P)) Z))) (N (o2 P) (N o4 (N o8 (L CT) (L VQ)) (N VG (L (VM P)) Z)) (N o6 (N VF (L VK) (L VT)) (N VJ (L VO) Z))))
noncomputable def lV(P:Params):BT:=(N (o0 P) (N (o1 P) (N (o3 P) (N o7 (N o7 (L Zk) Z) (L VP)) (N (XD P) (L VL) (L VU))) (N o5 (N o9 (L CU) (L VS)) (N (VI P) (L (VN P)) (L o8)))) (N (o2 P) (N o4 (N o8 (L CT) (L VQ)) (N VG (L (VM P)) (L o7))) (N o6 (N VF (L VK) (L VT)) (N VJ (L VO) (L Zj)))))
noncomputable def lW(P:Params):BT:=(N (o0 P) (N (o1 P) (N (o3 P) (N o7 (N o7 (L Zk) Z) (L VP)) (N (XD P) (L VL) (L VU))) (N o5 (N o9 (L CU) (L VS)) (N (VI P) (L (VN P)) (L o8)))) (N (o2 P) (N o4 (N o8 (L CT) (L VQ)) (N VG (L (VM P)) (L o7))) (N o6 (N VF (L VK) (L VT)) (N VJ (L VO) (L Zj)))))
noncomputable def eJ(P:Params):BT:=(N (o0 P) (N (o1 P) (N (lN P) (N o7 (N o7 (N Zk (L dm) Z) (N da (L o7) Z)) (N VP (N fm (L dt) Z) (N o6 (L (dA P)) Z))) (N (XD P) (N VL (N o7 (L fD) Z) (N H9 (L fJ) Z)) (N VU (N c9 (L o7) Z) (N fv (L fK) Z)))) (N o5 (N o9 (N CU (N o8 (L fC) Z) (N fq (L dw) Z)) (N VS (N H9 (L dv) Z) (N di (L dC) Z))) (N (VI P) (N (VN P) (N c6 (L dq) Z) (N dh (L dz) Z)) (N km (N o6 (L fG) Z) (L H9))))) (N (o2 P) (N o4 (N o8 (N CT (N o7 (L fw) Z) (N df (L o8) Z)) (N VQ (N o6 (L du) Z) (N H9 (L dB) Z))) (N VG (N (VM P) (N fk (L dp) Z) (N dg (L dy) Z)) (N o7 (N fo (L fF) Z) (N o6 (L fL) Z)))) (N o6 (N VF (N VK (N c5 (L o7) Z) (N o6 (L o7) Z)) (N VT (N c8 (L (fE P)) Z) (N dj (L dD) Z))) (N VJ (N VO (N c7 (L ds) Z) (N fu (L o7) Z)) (N Zj (N H9 (L fH) Z) (L dl))))))
noncomputable def eK(P:Params):BT:=(N (o0 P) (N (o1 P) (N (ko P) (N o7 (N o7 (N Zk (L dm) (L o6)) (N da (L o7) Z)) (N VP (N fm (L dt) Z) (N o6 (L (dA P)) Z))) (N (XD P) (N VL (N o7 (L fD) (L ig)) (N H9 (L fJ) Z)) (N VU (N c9 (L o7) Z) (N fv (L fK) Z)))) (N o5 (N o9 (N CU (N o8 (L fC) (L hW)) (N fq (L dw) Z)) (N VS (N H9 (L dv) Z) (N di (L dC) Z))) (N (VI P) (N (VN P) (N c6 (L dq) Z) (N dh (L dz) Z)) (N km (N o6 (L fG) Z) (N H9 (L hR) Z))))) (N (o2 P) (N o4 (N o8 (N CT (N o7 (L fw) (L lO)) (N df (L o8) Z)) (N VQ (N o6 (L du) Z) (N H9 (L dB) Z))) (N VG (N (VM P) (N fk (L dp) Z) (N dg (L dy) Z)) (N o7 (N fo (L fF) Z) (N o6 (L fL) Z)))) (N o6 (N VF (N VK (N c5 (L o7) (L o7)) (N o6 (L o7) Z)) (N VT (N c8 (L (fE P)) Z) (N dj (L dD) Z))) (N VJ (N VO (N c7 (L ds) Z) (N fu (L o7) Z)) (N Zj (N H9 (L fH) Z) (N dl (L hU) Z))))))
noncomputable def eL(P:Params):BT:=(N (o0 P) (N (o1 P) (N (ko P) (N o7 (N o7 (N Zk (N dm (L aJ) Z) (L o6)) (N da (N o7 (L o7) Z) (L o7))) (N VP (N fm (N dt (L aO) Z) (L kq)) (N o6 (L (dA P)) (L (kC P))))) (N (XD P) (N VL (N o7 (N fD (L o7) Z) (L ig)) (N H9 (L fJ) (L fM))) (N VU (N c9 (N o7 (L aU) Z) (L ku)) (N fv (L fK) (L kG))))) (N o5 (N o9 (N CU (N o8 (N fC (L aK) Z) (L hW)) (N fq (N dw (L o7) Z) (L o7))) (N VS (N H9 (N dv (L aQ) Z) (L ks)) (N di (L dC) (L kE)))) (N (VI P) (N (VN P) (N c6 (N dq (L aM) Z) (L o7)) (N dh (L dz) (L o8))) (N lP (N o6 (N fG (L aW) Z) (L kx)) (N H9 (L hR) (L aI)))))) (N (o2 P) (N o4 (N o8 (N CT (N o7 (N fw (L o7) Z) (L ij)) (N df (N o8 (L aY) Z) (L kz))) (N VQ (N o6 (N du (L aP) Z) (L (kr P))) (N H9 (L dB) (L kD)))) (N VG (N (VM P) (N fk (N dp (L o8) Z) (L fM)) (N dg (L dy) (L o7))) (N o7 (N fo (N fF (L aV) Z) (L kv)) (N o6 (L fL) (L aH))))) (N o6 (N VF (N VK (N c5 (N o7 (L aL) Z) (L o7)) (N o6 (N o7 (L aZ) Z) (L kA))) (N VT (N c8 (N (fE P) (L aR) Z) (L kt)) (N dj (L dD) (L kF)))) (N VJ (N VO (N c7 (N ds (L (aN P)) Z) (L o8)) (N fu (L o7) (L kB))) (N Zj (N H9 (N fH (L aX) Z) (L ky)) (N dl (L hU) (L o7)))))))
noncomputable def kT(P:Params):BT:=(N (o0 P) (N (o1 P) (N (a0 P) (N o7 (N o7 (N Zk (N dm (N aJ (L b7) Z) (L bu)) (N o6 (N a7 (L cP) Z) (L bL))) (N da (N o7 (N o7 (L cx) Z) (L gT)) (N o7 (N o7 (L cW) Z) (L o8)))) (N VP (N fm (N dt (N aO (L cg) Z) (L o7)) (N kq (N bc (L cS) Z) (L o7))) (N o6 (N (dA P) (N gJ (L cH) Z) (L bH)) (N (kC P) (L o8) (L bW))))) (N (XD P) (N VL (N o7 (N fD (N o7 (L b9) Z) (L bx)) (N ig (N a9 (L o8) Z) (L o7))) (N H9 (N fJ (N o7 (L cC) Z) (L o8)) (N fM (N gP (L cY) Z) (L bU)))) (N VU (N c9 (N o7 (N aU (L cp) Z) (L o7)) (N ku (N o7 (L cU) Z) (L gX))) (N fv (N fK (N o8 (L cL) Z) (L bJ)) (N kG (L bp) (L bZ)))))) (N o5 (N o9 (N CU (N o8 (N fC (N aK (L g7) Z) (L gR)) (N hW (N o7 (L cR) Z) (L o8))) (N fq (N dw (N o7 (L cA) Z) (L bF)) (N o7 (N bj (L o8) Z) (L o7)))) (N VS (N H9 (N dv (N aQ (L cj) Z) (L bA)) (N ks (N o8 (L o7) Z) (L bQ))) (N di (N dC (N gL (L cJ) Z) (L o7)) (N kE (L o7) (L gZ))))) (N (VI P) (N (VN P) (N c6 (N dq (N aM (L ce) Z) (L o8)) (N o7 (N gN (L o7) Z) (L bO))) (N dh (N dz (N (gI P) (L cF) Z) (L o7)) (N o8 (N bm (L cZ) Z) (L o7)))) (N gH (N o6 (N fG (N aW (L cr) Z) (L bC)) (N kx (N bf (L hH) Z) (L bS))) (N H9 (N hR (N o7 (L cN) Z) (L gV)) (N aI (L o7) (L (b5 P)))))))) (N (o2 P) (N o4 (N o8 (N CT (N o7 (N fw (N o7 (L b8) Z) (L o7)) (N ij (N a8 (L cQ) Z) (L o7))) (N df (N o8 (N aY (L cz) Z) (L bD)) (N kz (N o8 (L o7) Z) (L bT)))) (N VQ (N o6 (N du (N aP (L ci) Z) (L gS)) (N (kr P) (N o7 (L cT) Z) (L o8))) (N H9 (N dB (N gK (L cI) Z) (L bI)) (N kD (L bo) (L o7))))) (N VG (N (VM P) (N fk (N dp (N o8 (L cb) Z) (L o7)) (N fM (N o7 (L o7) Z) (L gW))) (N dg (N dy (N dv (L cD) Z) (L bG)) (N o7 (N bk (L hO) Z) (L bV)))) (N o7 (N fo (N fF (N aV (L cq) Z) (L o8)) (N kv (N gO (L o7) Z) (L bR))) (N o6 (N fL (N a6 (L cM) Z) (L o7)) (N aH (L bq) (L b0)))))) (N o6 (N VF (N VK (N c5 (N o7 (N aL (L g8) Z) (L bw)) (N o7 (N o8 (L o7) Z) (L bM))) (N o6 (N o7 (N aZ (L cB) Z) (L o7)) (N kA (N o7 (L cX) Z) (L gY)))) (N VT (N c8 (N (fE P) (N aR (L ck) Z) (L bB)) (N kt (N be (L o8) Z) (L o7))) (N dj (N dD (N o7 (L cK) Z) (L o8)) (N kF (L gQ) (L bX))))) (N VJ (N VO (N c7 (N ds (N (aN P) (L cf) Z) (L bz)) (N o8 (N ba (L g9) Z) (L bP))) (N fu (N o7 (N o7 (L cG) Z) (L gU)) (N kB (N o7 (L c4) Z) (L o8)))) (N Zj (N H9 (N fH (N aX (L cu) Z) (L o7)) (N ky (N bh (L cV) Z) (L o7))) (N dl (N hU (N gM (L cO) Z) (L bK)) (N o7 (L o8) (L b6))))))))
noncomputable def iH(P:Params)(os:OsState):SharedT:=⟨kS P,28,I7,#[],⟨0,0,0,0⟩,276,os⟩
noncomputable def kP(P:Params)(os:OsState):SharedT:=⟨SU P,28,I7,#[],⟨0,0,0,0⟩,276,os⟩
noncomputable def kQ(P:Params)(os:OsState):SharedT:=⟨lV P,32,I7,#[],⟨0,0,0,0⟩,282,os⟩
noncomputable def kL:Pos:=⟨0,0,0,0⟩
noncomputable def fT(P:Params)(os:OsState):SharedT:=⟨lW P,32,I7,#[],⟨0,0,0,0⟩,282,os⟩
noncomputable def fO:Pos:=⟨0,0,0,0⟩
noncomputable def Ip(P:Params)(os:OsState):SharedT:=⟨eJ P,93,I7,#[],⟨0,0,0,0⟩,927,os⟩
noncomputable def Ig:Pos:=⟨16,0,19,18⟩
noncomputable def El(P:Params)(os:OsState):SharedT:=⟨eK P,100,I7,#[],⟨0,0,0,0⟩,1189,os⟩
noncomputable def Ek:Pos:=⟨20,0,20,5⟩
noncomputable def FZ(P:Params)(os:OsState):SharedT:=⟨eL P,147,I7,#[.finished,.finished,.finished],⟨0,0,0,0⟩,1286,os⟩
noncomputable def FU:Pos:=⟨23,0,23,52⟩
noncomputable def Sm(P:Params)(os:OsState):SharedT:=⟨kT P,311,I7,#[.finished,.finished,.finished],⟨0,0,0,0⟩,1523,os⟩
noncomputable def kM:Pos:=⟨295,0,321,15⟩
noncomputable def m0:Nat:=28
noncomputable def ev:Env:=⟨pg.main.scope,mainNs,mainNs,[],Str.empty,none,(vr 30),some 31,0⟩
noncomputable def gm:Pos:=⟨0,0,0,0⟩
noncomputable def an:Option Value:=(some (vr 6))
noncomputable def loose:List Str:=[so "_sre",so "_wall",so "_twin_re_1",so "_twin_re_2",so "_twin_re_3",so "_twin_re_6",so "_twin_re_7",so "C_NONE",so "C_BACKSLASH",so "C_STRING_FIRST_LINE",so "C_STRING_NEXT_LINES",so "C_BRACKET",so "_synchre",so "_junkre",so "_match_stringre",so "_chew_ordinaryre",so "ParseMap",so "trans",so "Parser",so "_law_items",so "_law_lasts",so "_law_width"]
noncomputable def kf(P:Params):Frag:=[(2,o2 P),(3,a0 P),(32,o7),(34,c5),(35,o7),(37,c6),(38,c7),(42,c8),(43,c9),(47,da),(48,df),(52,dg),(53,dh),(57,di),(58,dj),(62,dl),(63,dm),(68,dp),(69,dq),(70,ds),(71,dt),(72,du),(79,o7),(81,dw),(82,o7),(84,dy),(85,dz),(86,o7),(87,dA P),(88,dB),(89,dC),(90,dD),(95,o6),(96,ij),(154,o7),(156,a6),(157,o7),(159,a7),(160,a8),(161,o7),(163,a9),(164,o7),(166,ba),(167,bc),(168,o7),(170,be),(171,o7),(173,bf),(174,bh),(175,o7),(177,bj),(178,o7),(180,bk),(181,bm),(182,o7),(184,bo),(185,o7),(187,bp),(188,bq),(189,o7),(191,bu),(192,o7),(194,bw),(195,bx),(196,o7),(198,bz),(199,o7),(201,bA),(202,bB),(203,o7),(205,bC),(206,o7),(208,bD),(209,bF),(210,o7),(212,bG),(213,o7),(215,bH),(216,bI),(217,o7),(219,bJ),(220,o7),(222,bK),(223,bL),(224,o7),(226,bM),(227,o7),(229,bO),(230,bP),(231,o7),(233,bQ),(234,o7),(236,bR),(237,bS),(238,o7),(240,bT),(241,o7),(243,bU),(244,bV),(245,o7),(247,bW),(248,o7),(250,bX),(251,bZ),(252,b0),(253,b5 P),(254,b6),(255,b7),(256,b8),(259,b9),(260,cb),(261,ce),(262,cf),(263,cg),(264,ci),(265,cj),(266,ck),(267,cp),(268,cq),(269,cr),(270,cu),(271,cx),(272,cz),(273,cA),(274,cB),(275,cC),(276,cD),(277,cF),(278,cG),(279,cH),(280,cI),(281,cJ),(282,cK),(283,cL),(284,cM),(285,cN),(286,cO),(287,cP),(288,cQ),(289,cR),(290,o7),(292,o7),(293,o7),(295,cS),(296,cT),(297,o7),(299,cU),(300,o7),(302,cV),(303,cW),(304,o7),(306,cX),(307,cY),(309,cZ),(310,c4)]
noncomputable def Vv:List Addr:=[2,3,32,34,35,37,38,42,43,47,48,52,53,57,58,62,63,68,69,70,71,72,79,81,82,84,85,86,87,88,89,90,95,96,154,156,157,159,160,161,163,164,166,167,168,170,171,173,174,175,177,178,180,181,182,184,185,187,188,189,191,192,194,195,196,198,199,201,202,203,205,206,208,209,210,212,213,215,216,217,219,220,222,223,224,226,227,229,230,231,233,234,236,237,238,240,241,243,244,245,247,248,250,251,252,253,254,255,256,259,260,261,262,263,264,265,266,267,268,269,270,271,272,273,274,275,276,277,278,279,280,281,282,283,284,285,286,287,288,289,290,292,293,295,296,297,299,300,302,303,304,306,307,309,310]
section
set_option maxHeartbeats 0
open PySem.W.Fast
noncomputable def QG(ex:Thread→Option (List Value))(st:SharedT→Thread→Option (SharedT×Thread)):Nat→SharedT→Thread→Option SharedT
 |0,_,_=>none
 |n+1,s,t=>match ex t with
  |some []=>some s
  |some (_::_)=>none
  |none=>match st s t with
   |some (s',t')=>QG ex st n s' t'
   |none=>none
theorem NE{tb:String→Option Builtin}{p:Program}{w:World}:∀{n:Nat} {s s':SharedT} {t:Thread},QG Thread.atExitBegin (stepT (denote tb) p w) n s t=some s'→importEnds tb p w n s.abs t=some s'.abs
 |0,_,_,_,h=>by cases h
 |n+1,s,s',t,h=>by
  unfold QG at h
  unfold importEnds
  induction he:t.atExitBegin using zh with
  |some x=>rw[he]at h;induction x using zi with
   |nil=>cases h;rfl
   |cons _ _=>cases h
  |none=>
   rw[he]at h
   induction hs:stepT (denote tb) p w s t using zh with
   |none=>rw[hs]at h;cases h
   |some r=>obtain⟨s₂,t₂⟩:=r;rw[hs]at h;dsimp only;rw[stepT_spec hs];exact NE h
noncomputable abbrev Xb(p:Program)(w:World):=QG tw3805553451399329143 (tw10156331382660048174 (tw11892475500146522536 tw14364793385576792824) p w)
theorem Ty(p:Program)(w:World):Xb p w=QG Thread.atExitBegin (stepT (denote treeTable) p w):=by
 unfold Xb
 rw[te3805553451399329143,te10156331382660048174,te11892475500146522536,te14364793385576792824]
noncomputable def kR(os:OsState):SharedT:=⟨.nil,0,{},#[],{},1,os⟩
theorem YN(w:World)(os:OsState):Xb (opening pg) w 900 (kR os) (start (opening pg)).2=some (iH w.params os):=by kernel_rfl
theorem UT:(kR (start (opening pg)).1.os).abs=(start (opening pg)).1:=by kernel_rfl
theorem U3(w:World):importEnds treeTable (opening pg) w 900 (start (opening pg)).1 (start (opening pg)).2=some (iH w.params (start (opening pg)).1.os).abs:=by
 have h:=YN w (start (opening pg)).1.os
 rw[Ty]at h
 have h:=NE h
 rw[UT]at h
 exact h
theorem U2(w:World):(fun os=>(tw14289696077712309145 pg (iH w.params os).abs).map (fun s=>(s.heap,s.gens,s.drawn,s.toks)))=fun _=>some (absHeap (SU w.params) 28 I7,#[],⟨0,0,0,0⟩,276):=by kernel_rfl
noncomputable abbrev bE:List Stmt:=behindTheImports pg
noncomputable abbrev cE:Code:=.body bE ev
noncomputable abbrev B:List Frame:=[topFrame gm]
theorem eG(w:World):(fun os=>tw15667345088766844465 tw14364793385576792824 pg w m0 an 12 (kP w.params os).abs (topStub pg))=fun os=>some ((kQ w.params os).abs,⟨tw11892475500146522536 tw14364793385576792824 cE,cE,kL,B⟩):=by kernel_rfl
end
section
set_option maxHeartbeats 0
open PySem.W.Fast
theorem O4{p:Program}{w:World}{n₀:Nat}{ann:Option Value}{b n:Nat}{s:SharedT}{t:Thread}{r:Option (Flow×SharedT×Code×Pos)}(h:tw10110043849684766642 tw14364793385576792824 p w n₀ ann b n s t=r):segRunT treeTable p w n₀ ann b n s t=r:=by
 rw[te10110043849684766642,te14364793385576792824];exact h
noncomputable def Kq(l:List Stmt)(p:Pos):Thread:=⟨(tw12563942051412417395 l ev).wrap doneF deadEnd id id,cE,p,B⟩
theorem MK(l:List Stmt)(p:Pos):Kq l p=piecesOf l ev cE p B:=by
 unfold Kq piecesOf;rw[←te12563942051412417395]
noncomputable abbrev sl(i n:Nat):List Stmt:=(bE.drop i).take n
noncomputable abbrev ix(w:World)(n:Nat)(s:SharedT)(t:Thread):=tw10110043849684766642 tw14364793385576792824 pg w m0 an 1 n s t
noncomputable abbrev W1(w:World)(b:Bool):World:=w.withFollow "special-get-raises" b
noncomputable abbrev W2(w:World)(b:Bool):World:=w.withFollow "comprehension-iter-twice" b
noncomputable def Gn(i n k:Nat)(s s':Params→OsState→SharedT)(p p':Pos)(w:World):Prop:=(fun os=>ix w k (s w.params os) (Kq (sl i n) p))=fun os=>some (.next,s' w.params os,cE,p')
theorem lz(w:World):Gn 0 13 1325 fT Ip fO Ig (W1 w false):=by unfold Gn;kernel_rfl
theorem lA(w:World):Gn 0 13 1325 fT Ip fO Ig (W1 w true):=by unfold Gn;kernel_rfl
theorem g4(w:World):Gn 17 6 885 FZ Sm FU kM w:=by unfold Gn;kernel_rfl
end
section
set_option maxHeartbeats 0
theorem lB(w:World):Gn 13 1 5256 Ip El Ig Ek (W1 w false):=by unfold Gn;kernel_rfl
theorem lC(w:World):Gn 13 1 5256 Ip El Ig Ek (W1 w true):=by unfold Gn;kernel_rfl
end
section
set_option maxHeartbeats 0
theorem gp(w:World):Gn 14 3 1400 El FZ Ek FU (W2 (W1 w false) false):=by unfold Gn;kernel_rfl
theorem gq(w:World):Gn 14 3 1400 El FZ Ek FU (W2 (W1 w false) true):=by unfold Gn;kernel_rfl
theorem gs(w:World):Gn 14 3 1400 El FZ Ek FU (W2 (W1 w true) false):=by unfold Gn;kernel_rfl
theorem gu(w:World):Gn 14 3 1400 El FZ Ek FU (W2 (W1 w true) true):=by unfold Gn;kernel_rfl
end
section
set_option maxHeartbeats 0
open PySem.W.Fast
theorem YO(w:World):((absHeap (SU w.params) 28 I7).isNs mainGlobals && (#[]:Array GenState).size==0,(absHeap (SU w.params) 28 I7).objs.size,tw8920871248978507458 (absHeap (SU w.params) 28 I7) mainGlobals "__annotations__")=(true,m0,an):=by kernel_rfl
theorem l1(w:World):(fun os=>staticsOk (importedModules pg.main.body) (absHeap (SU w.params) 28 I7) (Sm w.params os).abs.heap)=fun _=>true:=by kernel_rfl
theorem l2(w:World):(fun os=>namesBound pg (Sm w.params os).abs.heap)=fun _=>true:=by kernel_rfl
theorem l3(w:World):(fun os=>gensDone (Sm w.params os).abs)=fun _=>true:=by kernel_rfl
theorem l4(w:World):(fun os=>laidKept (absHeap (SU w.params) 28 I7) (Sm w.params os).abs.heap)=fun _=>true:=by kernel_rfl
end
section
set_option maxHeartbeats 0
open PySem.W.Fast
noncomputable def q:Program:=view pg [23]
noncomputable abbrev fQ:RowW:=PySem.Challenge.rw_km0029_02.row.toRowW
noncomputable def Xt(s:Shared):Bool:=xlAt q [] s && recOk fQ.records s
theorem l5(w:World):(fun os=>tw4187177175401517315 q loose (importedModules pg.main.body) Xt false (Sm w.params os).abs)=fun _=>openGood q loose:=by kernel_rfl
theorem H6(P:Params):Vv=(kf P).map (·.1):=by kernel_rfl
theorem l6(w:World):(fun os=>Vv.map (Sm w.params os).abs.heap.get?)=fun _=>(kf w.params).map fun p=>some p.2:=by kernel_rfl
theorem l7(w:World):(fun os=>([305]:List Addr).map (Sm w.params os).abs.heap.get?)=fun _=>([305]:List Addr).map fun _=>some (tabObj #[]):=by kernel_rfl
end
section
set_option maxHeartbeats 400000
open PySem.W.Fast
theorem Gn.seg{i n k:Nat}{s s':Params→OsState→SharedT}{p p':Pos}{w:World}(h:Gn i n k s s' p p' w)(os:OsState):segRun treeTable pg w m0 an 1 k (s w.params os).abs (piecesOf (sl i n) ev cE p B)=some (.next,(s' w.params os).abs,cE,p'):=by
 rw[←MK]
 exact segRun_of (O4 (JR h os))
theorem g1(w:World):Gn 0 13 1325 fT Ip fO Ig w:=byRow2 "special-get-raises" lz lA w
theorem g2(w:World):Gn 13 1 5256 Ip El Ig Ek w:=byRow2 "special-get-raises" lB lC w
theorem g3(w:World):Gn 14 3 1400 El FZ Ek FU w:=
 byRow2 "comprehension-iter-twice" (byRow2 "special-get-raises" (P:=fun w=>Gn 14 3 1400 El FZ Ek FU (W2 w false)) gp gs) (byRow2 "special-get-raises" (P:=fun w=>Gn 14 3 1400 El FZ Ek FU (W2 w true)) gq gu) w
theorem U1(w:World)(os:OsState):segRun treeTable pg w m0 an 1 1 (kQ w.params os).abs (blockOf bE ev cE kL B)=some (.next,(fT w.params os).abs,cE,fO):=by kernel_rfl
theorem eF(w:World)(os:OsState):topRun treeTable pg w m0 an 2 (Sm w.params os).abs ⟨doneF .next,cE,kM,B⟩=some (Sm w.params os).abs:=by kernel_rfl
theorem Zz:sl 0 13++(sl 13 1++(sl 14 3++(sl 17 6++[])))=bE:=by kernel_rfl
theorem eH(w:World)(os:OsState):topRun treeTable pg w m0 an (12+(1+(1325+(5256+(1400+(885+2)))))) (kP w.params os).abs (topStub pg)=some (Sm w.params os).abs:=by
 have p:=JR (eG w) os
 rw[←te15667345088766844465,←te14364793385576792824,←te11892475500146522536]at p
 refine go_top p (piece_block (U1 w os) ?_)
 have k:=piece_app ((g1 w).seg os) (piece_app ((g2 w).seg os) (piece_app ((g3 w).seg os) (piece_app ((g4 w).seg os) (piece_nil (eF w os)))))
 rw[Zz]at k
 exact k
theorem Sp(w:World):(fencedOpening treeTable pg w 20000).map (fun s=>(s.heap,s.gens,s.drawn,s.toks))=some (absHeap (SU w.params) 28 I7,#[],⟨0,0,0,0⟩,276):=by
 refine open_cut (p:=pg) (N:=20000) (M:=900) (He:=fun P=>absHeap (kS P) 28 I7) (H₀:=fun P=>absHeap (SU P) 28 I7) (ge:= #[]) (g₀:= #[]) (de:=⟨0,0,0,0⟩) (d₀:=⟨0,0,0,0⟩) (ke:=276) (k₀:=276) U3 (by decide) (fun w=>?_) w
 have h:=U2 w
 rw[←te14289696077712309145]at h
 exact h
theorem left:LeftO pg q loose Xt (kmHook kf Vv H6 [305]).obs (kmHook kf Vv H6 [305]).val 20000 false:=by
 refine LeftO.of_pieces (N:=20000) (H₀:=fun P=>absHeap (SU P) 28 I7) (H₁:=fun P=>absHeap (kT P) 311 I7) (gs₀:= #[]) (gs₁:= #[.finished,.finished,.finished]) (d₀:=⟨0,0,0,0⟩) (d₁:=⟨0,0,0,0⟩) (k₀:=276) (k₁:=1523) (m₀:=m0) (ann:=an)
  Sp ?_ eH (by decide) ?_
 ·intro w
  have h:=YO w
  rw[←te8920871248978507458]at h
  exact h
 ·intro w
  have h5:=l5 w
  rw[←te4187177175401517315]at h5
  funext os
  have e1:=JR (l1 w) os
  have e2:=JR (l2 w) os
  have e3:=JR (l3 w) os
  have e4:=JR (l4 w) os
  have e5:=JR h5 os
  have e6:=JR (l6 w) os
  have e7:=JR (l7 w) os
  exact Prod.ext (look_both (look_both (look_both e1 e2) e3) e4) (Prod.ext e5 (Prod.ext e6 e7))
end
end Hd
end
namespace Ak
section
theorem Ao{A B:Prop}{G:Prop}(e:A∧B)(k:A→B→G):G:=And.elim k e
theorem Bi{A B C:Prop}{G:Prop}(e:A∧B∧C)(k:A→B→C→G):G:=And.elim (fun h r=>Ao r (k h)) e
theorem M9{A B C D:Prop}{G:Prop}(e:A∧B∧C∧D)(k:A→B→C→D→G):G:=And.elim (fun h r=>Bi r (k h)) e
theorem SM{A B C D E:Prop}{G:Prop}(e:A∧B∧C∧D∧E)(k:A→B→C→D→E→G):G:=And.elim (fun h r=>M9 r (k h)) e
theorem Zg{A B C D E F:Prop}{G:Prop}(e:A∧B∧C∧D∧E∧F)(k:A→B→C→D→E→F→G):G:=And.elim (fun h r=>SM r (k h)) e
theorem iV{A B C D E F H:Prop}{G:Prop}(e:A∧B∧C∧D∧E∧F∧H)(k:A→B→C→D→E→F→H→G):G:=And.elim (fun h r=>Zg r (k h)) e
theorem Ab{α:Sort _}{A B:α→Prop}{G:Prop}(e:∃x,A x∧B x)(k:∀x,A x→B x→G):G:=zg e fun x h=>Ao h (k x)
theorem BM{α:Sort _}{A B C:α→Prop}{G:Prop}(e:∃x,A x∧B x∧C x)(k:∀x,A x→B x→C x→G):G:=zg e fun x h=>Bi h (k x)
theorem L8{α:Sort _}{A B C D:α→Prop}{G:Prop}(e:∃x,A x∧B x∧C x∧D x)(k:∀x,A x→B x→C x→D x→G):G:=zg e fun x h=>M9 h (k x)
theorem Gw{α:Sort _}{A B C D E:α→Prop}{G:Prop}(e:∃x,A x∧B x∧C x∧D x∧E x)(k:∀x,A x→B x→C x→D x→E x→G):G:=zg e fun x h=>SM h (k x)
theorem iW{α:Sort _}{A B C D E F H:α→Prop}{G:Prop}(e:∃x,A x∧B x∧C x∧D x∧E x∧F x∧H x)(k:∀x,A x→B x→C x→D x→E x→F x→H x→G):G:=zg e fun x h=>iV h (k x)
theorem Aq{α β:Sort _}{A:α→β→Prop}{G:Prop}(e:∃x y,A x y)(k:∀x y,A x y→G):G:=zg e fun x h=>zg h (k x)
theorem A6{α β:Sort _}{A B:α→β→Prop}{G:Prop}(e:∃x y,A x y∧B x y)(k:∀x y,A x y→B x y→G):G:=zg e fun x h=>Ab h (k x)
theorem Ba{α β:Sort _}{A B C:α→β→Prop}{G:Prop}(e:∃x y,A x y∧B x y∧C x y)(k:∀x y,A x y→B x y→C x y→G):G:=zg e fun x h=>BM h (k x)
theorem Pq{α β:Sort _}{A B C D:α→β→Prop}{G:Prop}(e:∃x y,A x y∧B x y∧C x y∧D x y)(k:∀x y,A x y→B x y→C x y→D x y→G):G:=zg e fun x h=>L8 h (k x)
theorem Vc{α β:Sort _}{A B C D E:α→β→Prop}{G:Prop}(e:∃x y,A x y∧B x y∧C x y∧D x y∧E x y)(k:∀x y,A x y→B x y→C x y→D x y→E x y→G):G:=zg e fun x h=>Gw h (k x)
theorem iX{α β:Sort _}{A B C D E F H:α→β→Prop}{G:Prop}(e:∃x y,A x y∧B x y∧C x y∧D x y∧E x y∧F x y∧H x y)(k:∀x y,A x y→B x y→C x y→D x y→E x y→F x y→H x y→G):G:=zg e fun x h=>iW h (k x)
theorem iY{α β γ:Sort _}{A:α→β→γ→Prop}{G:Prop}(e:∃x y z,A x y z)(k:∀x y z,A x y z→G):G:=zg e fun x h=>Aq h (k x)
theorem DE{α β γ:Sort _}{A B:α→β→γ→Prop}{G:Prop}(e:∃x y z,A x y z∧B x y z)(k:∀x y z,A x y z→B x y z→G):G:=zg e fun x h=>A6 h (k x)
theorem CS{α β γ:Sort _}{A B C:α→β→γ→Prop}{G:Prop}(e:∃x y z,A x y z∧B x y z∧C x y z)(k:∀x y z,A x y z→B x y z→C x y z→G):G:=zg e fun x h=>Ba h (k x)
theorem AR{α β γ:Sort _}{A B C D:α→β→γ→Prop}{G:Prop}(e:∃x y z,A x y z∧B x y z∧C x y z∧D x y z)(k:∀x y z,A x y z→B x y z→C x y z→D x y z→G):G:=zg e fun x h=>Pq h (k x)
theorem eU{α β γ:Sort _}{A B C D E:α→β→γ→Prop}{G:Prop}(e:∃x y z,A x y z∧B x y z∧C x y z∧D x y z∧E x y z)(k:∀x y z,A x y z→B x y z→C x y z→D x y z→E x y z→G):G:=zg e fun x h=>Vc h (k x)
theorem eV{α β γ:Sort _}{A B C D E F H:α→β→γ→Prop}{G:Prop}(e:∃x y z,A x y z∧B x y z∧C x y z∧D x y z∧E x y z∧F x y z∧H x y z)(k:∀x y z,A x y z→B x y z→C x y z→D x y z→E x y z→F x y z→H x y z→G):G:=zg e fun x h=>iX h (k x)
theorem eW{α β γ δ:Sort _}{A:α→β→γ→δ→Prop}{G:Prop}(e:∃x y z w,A x y z w)(k:∀x y z w,A x y z w→G):G:=zg e fun x h=>iY h (k x)
theorem EG{α β γ δ ε:Sort _}{A:α→β→γ→δ→ε→Prop}{G:Prop}(e:∃x y z w u,A x y z w u)(k:∀x y z w u,A x y z w u→G):G:=zg e fun x h=>eW h (k x)
theorem SN{α β γ δ:Sort _}{A B:α→β→γ→δ→Prop}{G:Prop}(e:∃x y z w,A x y z w∧B x y z w)(k:∀x y z w,A x y z w→B x y z w→G):G:=zg e fun x h=>DE h (k x)
theorem eX{α β γ δ:Sort _}{A B C:α→β→γ→δ→Prop}{G:Prop}(e:∃x y z w,A x y z w∧B x y z w∧C x y z w)(k:∀x y z w,A x y z w→B x y z w→C x y z w→G):G:=zg e fun x h=>CS h (k x)
noncomputable abbrev Txt:=List Nat
inductive Val where
 |none
 |bool (b:Bool)
 |int (i:Int)
 |str (t:Txt)
 |seq (tup:Bool) (xs:List Val)
 |obj (d:Nat)
 |mt (s e:Nat)
inductive LV where
 |v (x:Val)
 |loc (k:Nat)
 |app (k:Nat)
 |fn (xs:List Val)
inductive Cell where
 |flds (fs:List (Option Val))
 |taken
structure St where
 loc:List (Option LV)
 own:List (List Val)
 self:List (Option LV)
 heap:List Cell
noncomputable def Az:Nat:=16777216
noncomputable def Bt:Txt→Txt→Bool
 |[],[]=>true
 |a::x,b::y=>cond (Nat.beq a b) (Bt x y) false
 |_,_=>false
noncomputable def pre? :Txt→Txt→Bool
 |[],_=>true
 |_::_,[]=>false
 |a::x,b::y=>cond (Nat.beq a b) (pre? x y) false
noncomputable def cin(c:Nat):Txt→Bool
 |[]=>false
 |b::y=>cond (Nat.beq c b) true (cin c y)
noncomputable def ltI:Int→Int→Bool
 | .ofNat a,.ofNat b=>Nat.blt a b
 | .ofNat _,.negSucc _=>false
 | .negSucc _,.ofNat _=>true
 | .negSucc a,.negSucc b=>Nat.blt b a
noncomputable def IT:Int→Int→Bool
 | .ofNat a,.ofNat b=>Nat.beq a b
 | .ofNat _,.negSucc _=>false
 | .negSucc _,.ofNat _=>false
 | .negSucc a,.negSucc b=>Nat.beq a b
noncomputable def IC{α:Type}(t:List α):Int→Option α
 | .ofNat n=>t[n]?
 | .negSucc n=>cond (Nat.blt n t.length) t[t.length - (n+1)]? none
noncomputable def clip(n:Nat):Int→Nat
 | .ofNat k=>min k n
 | .negSucc k=>n - (k+1)
noncomputable def DW:Val→Option Int
 | .none=>some 0
 | .int i=>some i
 |_=>none
noncomputable def Da(n:Nat):Val→Option Int
 | .none=>some (.ofNat n)
 | .int i=>some i
 |_=>none
noncomputable def sliceOf{α:Type}(t:List α)(a b:Nat):List α:=(t.take b).drop a
noncomputable def slice{α:Type}(t:List α)(lo hi:Int):List α:=sliceOf t (clip t.length lo) (clip t.length hi)
noncomputable def rep(t:Txt):Nat→Txt
 |0=>[]
 |n+1=>t++rep t n
noncomputable def EN(x t:Txt)(b i:Nat):Bool:=cond (Nat.ble (i+x.length) b) (pre? x (t.drop i)) false
noncomputable def Fm(p:Nat→Bool):Nat→Nat→Int
 |_,0=> -1
 |k,n+1=>cond (p k) (.ofNat k) (Fm p (k+1) n)
noncomputable def C5(p:Nat→Bool):Nat→Nat→Int→Int
 |_,0,r=>r
 |k,n+1,r=>C5 p (k+1) n (cond (p k) (.ofNat k) r)
noncomputable def Di(x t:Txt)(a b:Nat):Int:=Fm (EN x t b) a (b+1 - a)
noncomputable def Ck(x t:Txt)(a b:Nat):Int:=C5 (EN x t b) a (b+1 - a) (-1)
noncomputable def AA(old new:Txt):Nat→Txt→Txt
 |_,[]=>[]
 |k+1,_::y=>AA old new k y
 |0,c::y=>cond (pre? old (c::y)) (new++AA old new (old.length - 1) y) (c::AA old new 0 y)
noncomputable def CY(c:Nat):Nat:=
 cond (cin c [40,123,91]) 40 (cond (cin c [41,125,93]) 41 (cond (cin c [34,39,92,10,35]) c 120))
noncomputable def AC(n:Nat):Txt→Bool
 |[]=>true
 |c::y=>cond (Nat.blt c n) (AC n y) false
noncomputable def expand(w:Nat):(col:Nat)→Txt→Txt
 |_,[]=>[]
 |col,c::y=>cond (Nat.beq c 9) (List.replicate (w - col % w) 32++expand w (col+(w - col % w)) y)
   (c::expand w (cond (Nat.beq c 10 || Nat.beq c 13) 0 (col+1)) y)
inductive P1 where |len |neg |squeeze |mend |sum |isnone |tuple |bs |isint |notnone |mstart |mspan |syn1
inductive P2 where |add |sub |mul |fdiv |mod |eq |ne |lt |gt |ge |isin |notin |idx |expand |junk |syn2
inductive P3 where |slc |find |replace |chew |strre |syn3
inductive P4 where |find |rfind
structure Rx where
 junk:Txt→Nat→Option Nat
 bs:Txt→Option Nat
 chew:Txt→Nat→Nat→Option Nat
 strre:Txt→Nat→Nat→Option Nat
 Em:Txt→Nat→Nat→Option (Nat×Nat)
noncomputable def CL(p:Nat):Option Nat→Option Val
 |some e=>some (.mt p e)
 |none=>some .none
noncomputable def CM:Option (Nat×Nat)→Option Val
 |some p=>some (.mt p.1 p.2)
 |none=>some .none
noncomputable def sumOf:List Val→Option Int
 |[]=>some 0
 | .int i::r=>match sumOf r with |some k=>some (i+k) |none=>none
 |_::_=>none
noncomputable def QJ(b:Bool):Val→Option Val
 | .none=>some (.bool b)
 | .seq _ _=>none
 | .obj _=>none
 |_=>some (.bool !b)
noncomputable def Bw(rx:Rx):P1→Val→Option Val
 | .len,.str t=>some (.int (.ofNat t.length))
 | .len,.seq _ xs=>some (.int (.ofNat xs.length))
 | .neg,.int i=>some (.int (-i))
 | .isnone,x=>QJ true x
 | .mend,.mt _ e=>some (.int (.ofNat e))
 | .tuple,.seq false xs=>some (.seq true xs)
 | .squeeze,.str t=>cond (AC 128 t) (some (.str (t.map CY))) none
 | .sum,.seq false xs=>match sumOf xs with |some k=>some (.int k) |none=>none
 | .bs,.str t=>cond (Nat.ble t.length 100000) (CL 0 (rx.bs t)) none
 | .isint,.int _=>some (.bool true)
 | .notnone,x=>QJ false x
 | .mstart,.mt s _=>some (.int (.ofNat s))
 | .mspan,.mt s e=>some (.seq true [.int (.ofNat s),.int (.ofNat e)])
 | .syn1,.str t=>cond (Nat.ble t.length 50000) (CM (rx.Em t 0 t.length)) none
 |_,_=>none
noncomputable def Ze:Val→Val→Option Bool
 | .bool a,.bool b=>some (cond a b (!b))
 | .int a,.int b=>some (IT a b)
 | .str a,.str b=>some (Bt a b)
 |_,_=>none
noncomputable def C3(x:Int):List Val→Option Bool
 |[]=>some false
 | .int y::r=>match C3 x r with |some b=>some (cond (IT y x) true b) |none=>none
 |_::_=>none
noncomputable def Kw(a:List Val):Nat→List Val
 |0=>[]
 |n+1=>a++Kw a n
noncomputable def AG(rx:Rx):P2→Val→Val→Option Val
 | .add,.int a,.int b=>some (.int (a+b))
 | .add,.str a,.str b=>cond (Nat.ble (a.length+b.length) Az) (some (.str (a++b))) none
 | .add,.seq false a,.seq false b=>cond (Nat.ble (a.length+b.length) Az) (some (.seq false (a++b))) none
 | .sub,.int a,.int b=>some (.int (a - b))
 | .mul,.str a,.int (.ofNat n)=>cond (Nat.ble (a.length*n) Az && Nat.ble n Az) (some (.str (rep a n))) none
 | .mul,.str _,.int (.negSucc n)=>cond (Nat.ble n Az) (some (.str [])) none
 | .mul,.seq false a,.int (.ofNat n)=>cond (Nat.ble (a.length*n) Az && Nat.ble n Az) (some (.seq false (Kw a n))) none
 | .fdiv,.int a,.int (.ofNat (n+1))=>cond (Nat.blt n 1000000) (some (.int (Int.fdiv a (.ofNat (n+1))))) none
 | .mod,.int a,.int (.ofNat (n+1))=>some (.int (Int.fmod a (.ofNat (n+1))))
 | .eq,a,b=>match Ze a b with |some x=>some (.bool x) |none=>none
 | .ne,a,b=>match Ze a b with |some x=>some (.bool !x) |none=>none
 | .lt,.int a,.int b=>some (.bool (ltI a b))
 | .gt,.int a,.int b=>some (.bool (ltI b a))
 | .ge,.int a,.int b=>some (.bool !(ltI a b))
 | .isin,.str [c],.str b=>some (.bool (cin c b))
 | .notin,.str [c],.str b=>some (.bool !(cin c b))
 | .notin,.int x,.seq false b=>match C3 x b with |some r=>some (.bool !r) |none=>none
 | .idx,.str t,.int i=>match IC t i with |some c=>some (.str [c]) |none=>none
 | .idx,.seq _ xs,.int i=>IC xs i
 | .expand,.str t,.int (.ofNat (w+1))=>cond (Nat.ble (w+1) 1000 && Nat.ble t.length 16000) (some (.str (expand (w+1) 0 t))) none
 | .junk,.str t,.int (.ofNat p)=>cond (Nat.ble p t.length && Nat.ble t.length 100000) (CL p (rx.junk t p)) none
 | .syn2,.str t,.int (.ofNat p)=>cond (Nat.ble p t.length && Nat.ble t.length 50000) (CM (rx.Em t p t.length)) none
 |_,_,_=>none
noncomputable def both:Option Int→Option Int→(Int→Int→Val)→Option Val
 |some a,some b,k=>some (k a b)
 |_,_,_=>none
noncomputable def Dr(rx:Rx):P3→Val→Val→Val→Option Val
 | .slc,.str t,lo,hi=>both (DW lo) (Da t.length hi) fun a b=>.str (slice t a b)
 | .slc,.seq false t,lo,hi=>both (DW lo) (Da t.length hi) fun a b=>.seq false (slice t a b)
 | .find,.str t,.str x,.int (.ofNat a)=>some (.int (Di x t a t.length))
 | .replace,.str t,.str (o::old),.str new=>cond (Nat.ble new.length (old.length+1) && Nat.ble t.length 1000000) (some (.str (AA (o::old) new 0 t))) none
 | .chew,.str t,.int (.ofNat p),.int (.ofNat q)=>cond (Nat.ble p q && (Nat.ble q t.length && Nat.ble t.length 100000)) (CL p (rx.chew t p q)) none
 | .strre,.str t,.int (.ofNat p),.int (.ofNat q)=>cond (Nat.ble p q && (Nat.ble q t.length && Nat.ble t.length 100000)) (CL p (rx.strre t p q)) none
 | .syn3,.str t,.int (.ofNat p),.int (.ofNat q)=>cond (Nat.ble p q && (Nat.ble q t.length && Nat.ble t.length 50000)) (CM (rx.Em t p q)) none
 |_,_,_,_=>none
noncomputable def HK:P4→Val→Val→Val→Val→Option Val
 | .find,.str t,.str x,.int (.ofNat a),.int (.ofNat b)=>some (.int (Di x t a (min b t.length)))
 | .rfind,.str t,.str x,.int (.ofNat a),.int b=>some (.int (Ck x t a (clip t.length b)))
 |_,_,_,_,_=>none
noncomputable def truth:Val→Option Bool
 | .none=>some false
 | .bool b=>some b
 | .int i=>some !(IT i 0)
 | .str []=>some false
 | .str (_::_)=>some true
 | .seq _ []=>some false
 | .seq _ (_::_)=>some true
 | .obj _=>none
 | .mt _ _=>some true
mutual
inductive E where
 |lit (v:Val) |glob (i:Nat) (v:Val) |loc (k:Nat) |sat (k:Nat)
 |p1 (p:P1) (a:E) |p2 (p:P2) (a b:E) |p3 (p:P3) (a b c:E) |p4 (p:P4) (a b c d:E) |m2 (p:P2) (a b:E) |m3 (p:P3) (a b c:E)
 |bl (o:Bool) (es:Es) |not_ (a:E) |ite (t a b:E)
 |seq (t:Bool) (es:Es)
 |nlst (es:Es)
 |app (a:E)
 |push (f:Nat) (x:E)
 |apnd (l:Nat) (x:E)
 |fcall (f:Nat) (es:Es) |scall (f:Nat) (es:Es) |mcall (f j:Nat) (es:Es)
 |new (es:Es)
 |icall (f:Nat) (e:E)
 |wal (k:Nat) (e:E)
inductive Es where
 |nil |cons (e:E) (es:Es)
end
inductive T where |loc (k:Nat) |sat (k:Nat)
inductive It where |of (e:E) |range (a b:E) |range1 (b:E)
mutual
inductive S where
 |asg (k:Nat) (e:E) |sasg (k:Nat) (e:E) |asgs (ts:List T) (e:E) |unp (ts:List T) (e:E) |unr (ts:List T) (e:E)
 |aug (k:Nat) (p:P2) (e:E)
 |ex (e:E) |if_ (t:E) (a b:Ss) |while_ (t:E) (b o:Ss)
 |for_ (ts:List T) (it:It) (b:Ss)
 |ret (e:E) |brk |cont |asrt (t:E) |dell (k:Nat)
 |mkl (i j k:Nat) |augl (k:Nat) (e:E)
inductive Ss where
 |nil |cons (s:S) (ss:Ss)
end
inductive Out where |next |brk |cont |ret (v:LV)
inductive A7 where |assert
noncomputable def Ax{α:Type}:List (Option α)→Nat→Option α
 |[],_=>none
 |x::_,0=>x
 |_::r,k+1=>Ax r k
noncomputable def Bg{α:Type}:List (Option α)→Nat→α→List (Option α)
 |[],_,_=>[]
 |_::r,0,v=>some v::r
 |x::r,k+1,v=>x::Bg r k v
noncomputable def CW:List (List Val)→Nat→Option (List Val)
 |[],_=>none
 |x::_,0=>some x
 |_::r,k+1=>CW r k
noncomputable def oset:List (List Val)→Nat→List Val→List (List Val)
 |[],_,_=>[]
 |_::r,0,v=>v::r
 |x::r,k+1,v=>x::oset r k v
noncomputable def Fa:List (List Val)→List Val→List (List Val)
 |[],v=>[v]
 |x::r,v=>x::Fa r v
noncomputable def G1:List (List Val)→Nat
 |[]=>0
 |_::r=>G1 r+1
noncomputable def St.DD(σ:St)(k:Nat)(v:LV):St:=⟨Bg σ.loc k v,σ.own,σ.self,σ.heap⟩
noncomputable def St.Sd(σ:St)(k:Nat)(v:LV):St:=⟨σ.loc,σ.own,Bg σ.self k v,σ.heap⟩
noncomputable def St.Ky(σ:St)(k:Nat)(v:List Val):St:=⟨σ.loc,oset σ.own k v,σ.self,σ.heap⟩
noncomputable def St.DI(σ:St)(h:List Cell):St:=⟨σ.loc,σ.own,σ.self,h⟩
noncomputable def look(o:List (List Val)):LV→Option Val
 | .v x=>some x
 | .loc k=>match CW o k with |some xs=>some (.seq false xs) |none=>none
 | .app _=>none
 | .fn _=>none
noncomputable def Gs:List (Option LV)→Option (List (Option Val))
 |[]=>some []
 |none::r=>match Gs r with |some l=>some (none::l) |none=>none
 |some (.v x)::r=>match Gs r with |some l=>some (some x::l) |none=>none
 |some _::_=>none
noncomputable def BD:List (Option Val)→List (Option LV)
 |[]=>[]
 |none::r=>none::BD r
 |some x::r=>some (.v x)::BD r
noncomputable abbrev EI:=Nat→List (Option Val)→List Val→List Cell→(Val→List (Option Val)→List Cell→Prop)→(A7→List (Option Val)→List Cell→Prop)→Prop
noncomputable def Br(b:Bool)(p q:Prop):Prop:=match b with |true=>p |false=>q
noncomputable def B9{α:Type}(o:Option α)(P:α→Prop):Prop:=match o with |some x=>P x |none=>False
theorem Ap{b:Bool}{p q:Prop}(h:b=true)(hp:p):Br b p q:=by rw[h];exact hp
theorem AM{b:Bool}{p q:Prop}(h:b=false)(hp:q):Br b p q:=by rw[h];exact hp
theorem A9{α:Type}{o:Option α}{x:α}{P:α→Prop}(h:o=some x)(hp:P x):B9 o P:=by rw[h];exact hp
theorem Ae{α:Type}{o:Option α}{P:α→Prop}(h:B9 o P):∃x,o=some x∧P x:=by
 induction o using zh with
 |none=>exact h.elim
 |some x=>exact⟨x,rfl,h⟩
structure Cfg where
 rx:Rx
 call:EI
 init:Nat
 nf:Nat
noncomputable def BK{α:Type}:Nat→List (Option α)
 |0=>[]
 |n+1=>none::BK n
noncomputable def I5:Val→Bool
 | .none=>true
 | .bool _=>true
 | .int _=>true
 | .str _=>true
 |_=>false
noncomputable def isAtom:Val→Bool
 | .str _=>true
 | .mt _ _=>true
 |_=>false
noncomputable def BC:Val→Bool
 | .str _=>true
 |_=>false
noncomputable def Gy:Val→Bool
 | .none=>true
 |_=>false
noncomputable def TB(h:List Cell)(d:Nat):Bool:=match h[d]? with |some (.flds _)=>true |_=>false
section
variable (C:Cfg)(X:A7→St→Prop)
noncomputable def NO(K:Val→St→Prop)(l:LV)(σ:St):Prop:=B9 (look σ.own l) fun x=>K x σ
noncomputable def val? :LV→Option Val
 | .v x=>some x
 |_=>none
noncomputable def B8(K:Val→St→Prop)(l:LV)(σ:St):Prop:=B9 (val? l) fun x=>K x σ
noncomputable def Kn(K:LV→St→Prop)(o:Option Val)(σ:St):Prop:=B9 o fun x=>K (.v x) σ
noncomputable def M2(K:Bool→St→Prop)(x:Val)(σ:St):Prop:=B9 (truth x) fun b=>K b σ
noncomputable def Gv(K:Bool→St→Prop)(l:LV)(σ:St):Prop:=NO (M2 K) l σ
noncomputable def Sq(xs:List Val):Val→Option Val
 | .int i=>IC xs i
 |_=>none
mutual
noncomputable def Ce:E→(LV→St→Prop)→St→Prop
 | .lit v,K,σ=>K (.v v) σ
 | .glob _ v,K,σ=>K (.v v) σ
 | .loc k,K,σ=>B9 (Ax σ.loc k) fun v=>K v σ
 | .sat k,K,σ=>B9 (Ax σ.self k) fun v=>K v σ
 | .p1 p a,K,σ=>Ce a (NO fun x σ=>Kn K (Bw C.rx p x) σ) σ
 | .p2 p a b,K,σ=>Ce a (fun la σ=>Ce b (fun lb σ=>B9 (look σ.own la) fun x=>B9 (look σ.own lb) fun y=>Kn K (AG C.rx p x y) σ) σ) σ
 | .p3 p a b c,K,σ=>Ce a (fun la σ=>Ce b (fun lb σ=>Ce c (fun lc σ=>B9 (look σ.own la) fun x=>B9 (look σ.own lb) fun y=>B9 (look σ.own lc) fun z=>Kn K (Dr C.rx p x y z) σ) σ) σ) σ
 | .p4 p a b c d,K,σ=>Ce a (B8 fun x σ=>Br (BC x) (Ce b (B8 fun y σ=>Ce c (B8 fun z σ=>Ce d (B8 fun u σ=>Kn K (HK p x y z u) σ) σ) σ) σ) False) σ
 | .m2 p a b,K,σ=>Ce a (B8 fun x σ=>Br (BC x) (Ce b (B8 fun y σ=>Kn K (AG C.rx p x y) σ) σ) False) σ
 | .m3 p a b c,K,σ=>Ce a (B8 fun x σ=>Br (BC x) (Ce b (B8 fun y σ=>Ce c (B8 fun z σ=>Kn K (Dr C.rx p x y z) σ) σ) σ) False) σ
 | .bl o es,K,σ=>iT o es K σ
 | .not_ a,K,σ=>Ce a (Gv fun t σ=>K (.v (.bool !t)) σ) σ
 | .ite t a b,K,σ=>Ec t (fun t σ=>Br t (Ce a K σ) (Ce b K σ)) σ
 | .seq t es,K,σ=>Hn es (fun vs σ=>K (.v (.seq t vs)) σ) σ
 | .nlst es,K,σ=>Hn es (fun vs σ=>K (.loc (G1 σ.own)) ⟨σ.loc,Fa σ.own vs,σ.self,σ.heap⟩) σ
 | .app a,K,σ=>Ce a (fun l σ=>match l with | .loc k=>K (.app k) σ |_=>False) σ
 | .push f x,K,σ=>B9 (Ax σ.loc f) fun l=>match l with
   | .app k=>Ce x (B8 fun v σ=>B9 (CW σ.own k) fun xs=>Br (Nat.blt xs.length Az) (K (.v .none) (σ.Ky k (xs++[v]))) False) σ
   |_=>False
 | .apnd f x,K,σ=>B9 (Ax σ.loc f) fun l=>match l with
   | .loc k=>Ce x (B8 fun v σ=>B9 (CW σ.own k) fun xs=>Br (Nat.blt xs.length Az) (K (.v .none) (σ.Ky k (xs++[v]))) False) σ
   |_=>False
 | .fcall f es,K,σ=>Hn es (fun vs σ=>C.call f [] vs σ.heap (fun r _ h=>K (.v r) (σ.DI h)) (fun x _ h=>X x (σ.DI h))) σ
 | .scall f es,K,σ=>Hn es (fun vs σ=>B9 (Gs σ.self) fun fs=>
   C.call f fs vs σ.heap (fun r fs' h=>K (.v r) ⟨σ.loc,σ.own,BD fs',h⟩) (fun x fs' h=>X x ⟨σ.loc,σ.own,BD fs',h⟩)) σ
 | .mcall f j es,K,σ=>B9 (Ax σ.loc j) (fun l=>B8 (fun ov σ=>match ov with
   | .obj d=>Br (TB σ.heap d) (Hn es (fun vs σ=>match σ.heap[d]? with
    |some (.flds fs)=>C.call f fs vs (σ.heap.set d .taken) (fun r fs' h=>K (.v r) (σ.DI (h.set d (.flds fs')))) (fun x fs' h=>X x (σ.DI (h.set d (.flds fs'))))
    |_=>False) σ) False
   |_=>False) l σ)
 | .new es,K,σ=>Hn es (fun vs σ=>C.call C.init (BK C.nf) vs (σ.heap++[.taken])
   (fun r fs' h=>Br (Gy r) (K (.v (.obj σ.heap.length)) (σ.DI (h.set σ.heap.length (.flds fs')))) False) (fun x fs' h=>X x (σ.DI (h.set σ.heap.length (.flds fs'))))) σ
 | .icall f e,K,σ=>B9 (Ax σ.loc f) fun l=>match l with
   | .fn xs=>Ce e (B8 fun v σ=>Kn K (Sq xs v) σ) σ
   |_=>False
 | .wal k e,K,σ=>Ce e (fun l σ=>K l (σ.DD k l)) σ
noncomputable def Ec:E→(Bool→St→Prop)→St→Prop
 | .bl o es,K,σ=>iU o es K σ
 | .not_ a,K,σ=>Ec a (fun t σ=>K (!t) σ) σ
 | .ite t a b,K,σ=>Ec t (fun t σ=>Br t (Ec a K σ) (Ec b K σ)) σ
 | .loc k,K,σ=>B9 (Ax σ.loc k) fun v=>Gv K v σ
 | .sat k,K,σ=>B9 (Ax σ.self k) fun v=>Gv K v σ
 | .p1 p a,K,σ=>Ce a (NO fun x σ=>B9 (Bw C.rx p x) fun v=>M2 K v σ) σ
 | .p2 p a b,K,σ=>Ce a (fun la σ=>Ce b (fun lb σ=>B9 (look σ.own la) fun x=>B9 (look σ.own lb) fun y=>B9 (AG C.rx p x y) fun v=>M2 K v σ) σ) σ
 | .p3 p a b c,K,σ=>Ce a (fun la σ=>Ce b (fun lb σ=>Ce c (fun lc σ=>B9 (look σ.own la) fun x=>B9 (look σ.own lb) fun y=>B9 (look σ.own lc) fun z=>B9 (Dr C.rx p x y z) fun v=>M2 K v σ) σ) σ) σ
 | .fcall f es,K,σ=>Hn es (fun vs σ=>C.call f [] vs σ.heap (fun r _ h=>M2 K r (σ.DI h)) (fun x _ h=>X x (σ.DI h))) σ
 | .mcall f j es,K,σ=>B9 (Ax σ.loc j) (fun l=>B8 (fun ov σ=>match ov with
   | .obj d=>Br (TB σ.heap d) (Hn es (fun vs σ=>match σ.heap[d]? with
    |some (.flds fs)=>C.call f fs vs (σ.heap.set d .taken) (fun r fs' h=>M2 K r (σ.DI (h.set d (.flds fs')))) (fun x fs' h=>X x (σ.DI (h.set d (.flds fs'))))
    |_=>False) σ) False
   |_=>False) l σ)
 | .icall f e,K,σ=>B9 (Ax σ.loc f) fun l=>match l with
   | .fn xs=>Ce e (B8 fun v σ=>B9 (Sq xs v) fun b=>M2 K b σ) σ
   |_=>False
 | .wal k e,K,σ=>Ce e (fun l σ=>Gv K l (σ.DD k l)) σ
 |_,_,_=>False
noncomputable def Hn:Es→(List Val→St→Prop)→St→Prop
 | .nil,K,σ=>K [] σ
 | .cons e es,K,σ=>Ce e (B8 fun x σ=>Hn es (fun xs σ=>K (x::xs) σ) σ) σ
noncomputable def iT:Bool→Es→(LV→St→Prop)→St→Prop
 |_,.nil,_,_=>False
 |o,.cons e es,K,σ=>match es with
  | .nil=>Ce e K σ
  |_=>Ce e (fun l σ=>Gv (fun t σ=>match o with |true=>Br t (iT o es K σ) (K l σ) |false=>Br t (K l σ) (iT o es K σ)) l σ) σ
noncomputable def iU:Bool→Es→(Bool→St→Prop)→St→Prop
 |_,.nil,_,_=>False
 |o,.cons e es,K,σ=>match es with
  | .nil=>Ec e K σ
  |_=>Ec e (fun t σ=>match o with |true=>Br t (iU o es K σ) (K false σ) |false=>Br t (K true σ) (iU o es K σ)) σ
end
noncomputable def C6(T:(Bool→St→Prop)→St→Prop)(B:(Out→St→Prop)→St→Prop)(O:(Out→St→Prop)→St→Prop)(Q:Out→St→Prop):Nat→St→Prop
 |0,_=>False
 |n+1,σ=>T (fun b σ=>Br b (B (fun o σ=>match o with
   | .next=>C6 T B O Q n σ | .cont=>C6 T B O Q n σ | .brk=>Q .next σ | .ret v=>Q (.ret v) σ) σ) (O Q σ)) σ
noncomputable def Vx(T:(Bool→St→Prop)→St→Prop)(B:(Out→St→Prop)→St→Prop)(O:(Out→St→Prop)→St→Prop)(Q:Out→St→Prop)(σ:St):Prop:=∃n,C6 T B O Q n σ
noncomputable def stores:List T→List LV→St→Option St
 |[],[],σ=>some σ
 | .loc k::ts,v::vs,σ=>stores ts vs (σ.DD k v)
 | .sat k::ts,v::vs,σ=>stores ts vs (σ.Sd k v)
 |_,_,_=>none
noncomputable def storeAll(v:LV):List T→St→St
 |[],σ=>σ
 | .loc k::ts,σ=>storeAll v ts (σ.DD k v)
 | .sat k::ts,σ=>storeAll v ts (σ.Sd k v)
noncomputable def TS:List Val→List LV
 |[]=>[]
 |x::r=>.v x::TS r
noncomputable def Cv:List Val→List Val
 |[]=>[]
 |[_]=>[]
 |x::y::r=>x::Cv (y::r)
noncomputable def forL(A:Val→St→Option St)(B:(Out→St→Prop)→St→Prop)(Q:Out→St→Prop):List Val→St→Prop
 |[],σ=>Q .next σ
 |x::xs,σ=>B9 (A x σ) fun σ=>B (fun o σ=>match o with
   | .next=>forL A B Q xs σ | .cont=>forL A B Q xs σ | .brk=>Q .next σ | .ret v=>Q (.ret v) σ) σ
noncomputable def BU(ts:List T)(x:Val)(σ:St):Option St:=match ts,x with
 |[t],x=>stores [t] [.v x] σ
 |ts,.seq true xs=>stores ts (TS xs) σ
 |_,_=>none
noncomputable def chars:Txt→List Val
 |[]=>[]
 |c::y=>.str [c]::chars y
noncomputable def BG:Nat→Nat→List Val
 |_,0=>[]
 |a,n+1=>.int (.ofNat a)::BG (a+1) n
noncomputable def eS:It→(List Val→St→Prop)→St→Prop
 | .of e,K,σ=>Ce C X e (B8 fun v σ=>match v with | .seq _ xs=>K xs σ | .str t=>Br (AC 128 t) (K (chars t) σ) False |_=>False) σ
 | .range a b,K,σ=>Ce C X a (B8 fun x σ=>Ce C X b (B8 fun y σ=>match x,y with
   | .int (.ofNat i),.int (.ofNat j)=>Br (Nat.blt j Az && Nat.blt i Az) (K (BG i (j - i)) σ) False |_,_=>False) σ) σ
 | .range1 b,K,σ=>Ce C X b (B8 fun y σ=>match y with
   | .int (.ofNat j)=>Br (Nat.blt j Az) (K (BG 0 j) σ) False |_=>False) σ
mutual
noncomputable def kY:S→(Out→St→Prop)→St→Prop
 | .asg k e,Q,σ=>Ce C X e (fun v σ=>Q .next (σ.DD k v)) σ
 | .sasg k e,Q,σ=>Ce C X e (fun v σ=>Q .next (σ.Sd k v)) σ
 | .asgs ts e,Q,σ=>Ce C X e (fun v σ=>Q .next (storeAll v ts σ)) σ
 | .unp ts e,Q,σ=>Ce C X e (B8 fun v σ=>match v with
   | .seq _ xs=>B9 (stores ts (TS xs) σ) fun σ=>Q .next σ
   |_=>False) σ
 | .unr ts e,Q,σ=>Ce C X e (B8 fun v σ=>match v with
   | .seq _ xs=>B9 (stores ts.reverse (TS xs.reverse) σ) fun σ=>Q .next σ
   |_=>False) σ
 | .aug k p e,Q,σ=>B9 (Ax σ.loc k) fun l=>B8 (fun x σ=>Br (I5 x) (Ce C X e (B8 fun y σ=>B9 (AG C.rx p x y) fun v=>Q .next (σ.DD k (.v v))) σ) False) l σ
 | .ex e,Q,σ=>Ce C X e (B8 fun x σ=>Br (I5 x) (Q .next σ) False) σ
 | .if_ t a b,Q,σ=>Ec C X t (fun c σ=>Br c (Ay a Q σ) (Ay b Q σ)) σ
 | .while_ t b o,Q,σ=>Vx (Ec C X t) (Ay b) (Ay o) Q σ
 | .for_ ts it b,Q,σ=>eS C X it (fun xs σ=>forL (BU ts) (Ay b) Q xs σ) σ
 | .ret e,Q,σ=>Ce C X e (fun v σ=>Q (.ret v) σ) σ
 | .brk,Q,σ=>Q .brk σ
 | .cont,Q,σ=>Q .cont σ
 | .asrt t,Q,σ=>Ec C X t (fun c σ=>Br c (Q .next σ) (X .assert σ)) σ
 | .dell k,Q,σ=>match Ax σ.loc k with
   |some (.loc j)=>match CW σ.own j with |some (x::xs)=>Q .next (σ.Ky j (Cv (x::xs))) |_=>False
   |_=>False
 | .mkl i j k,Q,σ=>Q .next ((((⟨σ.loc,Fa (Fa σ.own []) [],σ.self,σ.heap⟩:St).DD i (.v (.str []))).DD j (.loc (G1 σ.own))).DD k (.loc (G1 σ.own+1)))
 | .augl k e,Q,σ=>B9 (Ax σ.loc k) fun l=>match l with
   | .loc j=>Ce C X e (B8 fun y σ=>match y with
    | .seq false ys=>B9 (CW σ.own j) fun xs=>Br (Nat.ble (xs.length+ys.length) Az) (Q .next ((σ.Ky j (xs++ys)).DD k (.loc j))) False
    |_=>False) σ
   |_=>False
noncomputable def Ay:Ss→(Out→St→Prop)→St→Prop
 | .nil,Q,σ=>Q .next σ
 | .cons s ss,Q,σ=>kY s (fun o σ=>match o with | .next=>Ay ss Q σ |o=>Q o σ) σ
end
end
structure Fn where
 ar:Nat
 nloc:Nat
 body:Ss
noncomputable def start:List Val→Nat→List (Option LV)
 |[],n=>BK n
 |x::r,n=>some (.v x)::start r n
noncomputable def fz(o:List (List Val)):List (Option LV)→Option (List (Option Val))
 |[]=>some []
 |none::r=>match fz o r with |some l=>some (none::l) |none=>none
 |some x::r=>match look o x,fz o r with |some y,some l=>some (some y::l) |_,_=>none
noncomputable def Qe(K:Val→List (Option Val)→List Cell→Prop)(v:LV)(σ:St):Prop:=B9 (look σ.own v) fun r=>B9 (fz σ.own σ.self) fun fs=>K r fs σ.heap
noncomputable def DQ(X:A7→List (Option Val)→List Cell→Prop)(x:A7)(σ:St):Prop:=B9 (fz σ.own σ.self) fun fs=>X x fs σ.heap
noncomputable def DC(K:Val→List (Option Val)→List Cell→Prop)(o:Out)(σ:St):Prop:=match o with
 | .ret v=>Qe K v σ
 | .next=>Qe K (.v .none) σ
 |_=>False
structure Ne where
 rx:Rx
 fns:List Fn
 init:Nat
 nf:Nat
noncomputable def AD(P:Ne):Nat→EI
 |0=>fun _ _ _ _ _ _=>False
 |d+1=>fun f fs vs h K X=>match P.fns[f]? with
  |some fn=>Br (Nat.beq vs.length fn.ar) (Ay ⟨P.rx,AD P d,P.init,P.nf⟩ (DQ X) fn.body (DC K) ⟨start vs fn.nloc,[],BD fs,h⟩) False
  |none=>match P.fns[f - 2000]?,vs with
   |some fn,[.seq false xs]=>Br (Nat.beq 1 fn.ar) (Ay ⟨P.rx,AD P d,P.init,P.nf⟩ (DQ X) fn.body (DC K) ⟨some (.fn xs)::BK fn.nloc,[],BD fs,h⟩) False
   |_,_=>False
theorem condT{b x:Bool}(h:cond b x false=true):b=true∧x=true:=by
 induction b using za with
 |true=>exact⟨rfl,h⟩
 |false=>exact Bool.noConfusion h
theorem Fd{x:Txt}:∀{t:Txt},pre? x t=true↔t.take x.length=x:=by
 induction x with
 |nil=>exact⟨fun _=>rfl,fun _=>rfl⟩
 |cons a x ih=>
  intro t
  induction t using zi with
  |nil=>exact⟨fun h=>(nomatch h),fun h=>(nomatch h)⟩
  |cons b y=>
   refine⟨fun h=>?_,fun h=>?_⟩
   ·have q:=condT h
    show b::y.take x.length=a::x
    rw[zD q.1,ih.mp q.2]
   ·have e:=z9 h
    show cond (Nat.beq a b) (pre? x y) false=true
    rw[e.1,Jd];exact ih.mpr e.2
theorem Ks{x:Txt}:∀{t:Txt},pre? x t=true→x.length≤t.length:=fun h=>by
 have e:=zB List.length (Fd.mp h)
 rw[jo]at e
 rw[←e];exact Nat.min_le_right _ _
theorem pre_app{w s:Txt}(h:pre? w s=true):∃r,s=w++r:=
 ⟨s.drop w.length,(List.take_append_drop w.length s).symm.trans (zB (· ++s.drop w.length) (Fd.mp h))⟩
noncomputable def AllP(P:Nat→Prop)(n:Nat):Prop:=Nat.rec True (fun n ih=>ih∧P n) n
theorem Wg{P:Nat→Prop}{n:Nat}:AllP P n→∀k,k < n→P k:=by
 induction n with
 |zero=>exact fun _ k h=>absurd h (jt k)
 |succ n ih=>exact fun h k hk=>(Nat.eq_or_lt_of_le (Jp hk)).elim (fun e=>e▸h.2) fun l=>ih h.1 k l
end
end Ak
section
open PySem PySem.W PySem.Calls PyProof.Rows
namespace Ak.NG
section
set_option maxHeartbeats 1000000
def Good(c:ClaimW)(cl:Str→Option Addr)(mean:ExcName→Option Value)(args:List WData)(s₁:Shared)(r:Result)(s':Shared):Prop:=GoodWG c cl mean args s₁ r s'∧s'.gens= #[]
theorem ends{c:ClaimW}{s₀ s₁ s':Shared}{args:List WData}{vs:List Value}{as:List Addr}{r:Result}(hsame:c.same=none)(hwi:c.within=[])(hi:∀a b,c.ident a b=true)
  (hrd:ReadsAllW c.records (classAt s₀.heap) s₁.heap vs args as) (hold:∀a∈as,∃o,s₁.heap.get? a=some o) (hos:s₁.os=s₀.os)
  (g:Good c (classAt s₀.heap) (ExcName.means s₀.heap) args {s₁ with gens:= #[]} r s'):c.Ends s₀ args vs s₁ r s'∧s'.os=s₀.os∧s'.gens= #[]:=by
 obtain⟨⟨k,K,o,_⟩,g⟩:=g
 refine⟨?_,o.trans hos,g⟩
 rcases k with⟨v,d,bs,rfl,n,hv,hp,hu⟩ |⟨e,ob,cls,rfl,he,hc,hp,hn⟩
 ·refine .inl ⟨v,rfl,n,⟨d,args,bs,as,hv,hrd.keepsK fun b o e hc=>K.get_of_cls e hc,hp,fun q=>⟨(hu q).1,(hu q).2,fun a ha hb=>?_⟩,fun _ _=>hi _ _⟩,fun i e=>(nomatch hsame.symm.trans e),fun b o e _ _=>K.old b o e,fun i e=>?_⟩
  ·obtain⟨o,ho⟩:=hold a hb
   exact nomatch ((hu q).2 a ha).symm.trans ho
  ·rw[hwi]at e;exact nomatch e
 ·exact .inr ⟨e,ob,cls,rfl,he,hc,hp,hn,fun b o e=>K.old b o e⟩
abbrev Walk(q:Program)(loose:List Str)(XP:(Str→Option Value)→Heap→Prop)(YP:World→Heap→Prop)(r:RowW)(d:DefRec)(kwd:List (Str×Expr))(run:Value→List Value→Sem Value):Prop:=
 ∀(w:World) (s₀ s₁:Shared) (mg mb:Str→Option Value),Ground q loose r.records XP w s₀ mg mb s₁.heap→YP w s₁.heap→∀(a:Addr) (o:Obj) (pm cd doc dV kV:Value),s₁.heap.get? a=some o→
  o.data=.func {docDef d.name d.params d.body d.scope pm cd doc with defaults:=dV,kwdefaults:=kV}→s₁.heap.CodeRec cd d.name→Dflts mg s₁.heap d.params kwd dV kV→mg d.name=some (.ref a)→s₁.gens= #[]→
  ∀(args:List WData) (vals:List Value) (as:List Addr),r.claim.pre args=true→WData.layableAll args=true→ReadsAllW r.records (classAt s₀.heap) s₁.heap vals args as→WellAll w.params s₁.heap vals args→(∀a∈as,(a==sysModules)=false)→
   wpAny (model r.prog w) callerA (run (.ref a) vals) (fun v s'=>Good r.claim (classAt s₀.heap) (ExcName.means s₀.heap) args s₁ (.ok (.ret v)) s')
    (fun e s'=>Good r.claim (classAt s₀.heap) (ExcName.means s₀.heap) args s₁ (.error e) s') s₁
theorem S9{b:Bool}{x n:Str}(h:n∈(if b then[x]else[])):n=x:=by
 cases b with
 |true=>exact zI.mp h
 |false=>exact nomatch h
theorem holds{r:OpenRow}{q:Program}{loose:List Str}{Xt:Shared→Bool}{XP:(Str→Option Value)→Heap→Prop}{α:Type}{Yf:Shared→α}{Ya:World→α}{YP:World→Heap→Prop}{d:DefRec}{kwd:List (Str×Expr)}{N:Nat}
  (left:LeftO r.prog q loose Xt Yf Ya N false) (hY:∀w s,Yf s=Ya w→YP w s.heap) (hYk:∀w h h',YP w h→(∀b o,h.get? b=some o→h'.get? b=some o)→YP w h')
  (hX:∀s,Xt s=true→XP (s.heap.nsMap mainGlobals) s.heap) (hXk:∀mg h h',XP mg h→(∀b o,h.get? b=some o→h'.get? b=some o)→XP mg h')
  (hdef:defOf q r.name=some (d,kwd)) (hp:r.prog.theDef r.name=some (d.params,d.body,d.scope)) (hk:kwWritten? d.params.kwonlyargs d.params.kw_defaults=some kwd) (hRf:∀s,Xt s=true→RecFacts r.records s.heap) (hwr:(!r.writes || r.records.isEmpty)=true)
  (k1:r.wellSaid=true) (ok:(chainsOk q && opensWell r.prog && (frees r.toRowW && r.within.isEmpty))=true) (hb:r.prog.bare) (hw:r.toRowW.promised)
  (call:Walk q loose XP YP r.toRowW d kwd fun f vs=>PySem.call f vs):r.Holds:=by
 refine Ao (zz.mp ok) fun ok k5=>Ao (zz.mp ok) fun hch o1=>Ao (zz.mp k5) fun k5 k6=>SM (frees_parts k5) fun hsame hu ha hap hm=>?_
 refine⟨k1,hw,⟨hb,o1,by show r.makers.map _=[];rw[hm];rfl⟩,hw.witness,fun w=>⟨(left.behind hX hch w).1,fun s' hs'=>?_⟩⟩
 refine BM ((left.behind (XP:=fun mg h=>XP mg h∧RecFacts r.records h) (fun s hs=>⟨hX s hs,hRf s hs⟩) hch w).2 s' hs') fun s₀ hf hg0 h=>zg h fun s h=>Zg h fun hT hz hgens hg G00 y=>?_
 have G0:Ground q loose [] XP w s (s.heap.nsMap mainGlobals) (s.heap.nsMap builtinsNs) s.heap:=⟨G00.T,G00.B,G00.D,G00.TE,G00.TD,G00.W,G00.X.1,G00.cls,G00.has,G00.apart,G00.once,G00.K⟩
 have RF:=G00.X.2
 have hT':=hT
 refine⟨s₀,hf,hg0,s,hT,fun n hn=>?_,RF.1,RF.2.1,?_⟩
 ·rw[S9 hn]
  exact pinned_of_view hg G0 hdef hp hk
 have hgens:leftWithCleanup s.gens=false:=by simpa using hgens
 have G:Ground q loose r.records XP w s _ _ s.heap:=RF.ground G0
 refine ClaimW.callFrom_of_specN (c:=r.toRowW.claim) hz hgens fun args hpre hlay ord hord=>?_
 obtain⟨⟨vs,s₁⟩,hlaid⟩:=JX.mp (layAllW_isSome (P:=w.params) (ord:=ord) G.has args r.args s (pre_splitW hpre).1)
 have keeps:=layAllW_keeps _ _ _ hlaid
 have hal:=layAllW_rest _ _ _ hlaid
 refine BM (reads_layAllW hord _ _ _ hlaid hlay s₁.heap (fun _ _ e=>e)) fun as hrd hin hold=>?_
 have G₁:=G.keeps hXk keeps
 have hi:=ident_freeW hu ha hap
 have hwi:r.toRowW.claim.within=[]:=Ji.mp k6
 refine EG (G₁.fn hdef) fun a o pm cd doc h=>Vc h fun dV kV h1 h2 h3 h4 h5=>?_
 have h:=call w s {s₁ with gens:= #[]} _ _ G₁ (hYk _ _ _ (hY w s y) keeps) a o pm cd doc dV kV h2 h3 h4 h5 (defOf_name hdef▸h1) rfl args vs as hpre hlay hrd (well_layAllW hord args s _ hlaid _ fun _ _ e=>e)
  (fun a ha=>jk.mpr fun e=>by have:=(hin.2.2 a ha).1;subst e;exact absurd G.low (Nat.not_lt.mpr this))
 refine⟨vs,s₁,hlaid,zn (wpAny_nsGet G₁.T.g ?_)⟩
 rw[h1]
 refine zn (zZ h (fun v s' g=>zG ⟨_,rfl,?_⟩) fun e s' g=>?_)
 ·have z:=ends (c:=r.toRowW.claim) hsame hwi hi hrd hold hal.2.2.1 g
  exact⟨z.1,z.2.1,z.2.2,fun q=>⟨namesKept_of hT' hg r.keeps keeps g.1.2.1.old,noTable hwr q⟩⟩
 ·have z:=ends (c:=r.toRowW.claim) hsame hwi hi hrd hold hal.2.2.1 g
  exact⟨z.1,z.2.1,z.2.2,fun q=>⟨namesKept_of hT' hg r.keeps keeps g.1.2.1.old,noTable hwr q⟩⟩
theorem enter{M:Model}{A:Around}{s:Shared}{f:Value}{pos:List Value}{kw:List (Str×Value)}{c:ClaimW}{cl:Str→Option Addr}{mean:ExcName→Option Value}{args:List WData}{s₁:Shared}{tabs:List (Addr×Addr)}(hT:TabsAt tabs s₁.heap)
  (hr:∀a x,c.raises a x=false)
  (h:codeAny M A (.call f ⟨pos,kw⟩) (fun r s'=>GoodW c cl mean args {s₁ with heap:=ghostOf s₁.heap tabs} r s'∧GrownAll tabs s'.heap) s):wpAny M A (PySem.call f pos kw) (fun v s'=>Good c cl mean args s₁ (.ok (.ret v)) s') (fun e s'=>Good c cl mean args s₁ (.error e) s') s:=by
 refine JN (codeAny_mono h fun res s' ⟨⟨hc,hk,hos,hg⟩,gr⟩=>?_)
 have keep:∀b o,b∉tabs.map (·.2)→s₁.heap.get? b=some o→s'.heap.get? b=some o:=fun b o hb e=>hk b o (ghost_ne e hb)
 have grown:∀b o,b∈tabs.map (·.2)→s₁.heap.get? b=some o→isCodeTable s₁.heap b∧o=tabObj #[]∧∃ps,s'.heap.get? b=some (tabObj ps):=fun b o hb e=>by
  obtain⟨q,hq,rfl⟩:=zK.mp hb
  exact⟨((hT q hq).1.tab (hT q hq).2).isCodeTable,ze (e.symm.trans (hT q hq).2),gr.get q hq⟩
 have K:OldK s₁.heap s'.heap:=by
  refine⟨fun b o e=>?_,fun b o e=>?_⟩ <;>by_cases hb:b∈tabs.map (·.2)
  ·obtain⟨ht,rfl,ps,hP⟩:=grown b o hb e
   exact .inr (.inl ⟨ht,rfl,#[],ps,rfl,by rw[Array.empty_append];exact hP⟩)
  ·exact .inl (keep b o hb e)
  ·obtain⟨_,_,ps,hP⟩:=grown b o hb e
   exact⟨_,hP⟩
  ·exact⟨o,keep b o hb e⟩
 rcases hc with⟨v,d,as,rfl,r2,r3,r4,r5⟩ |⟨e,ob,x,_,_,_,r4,_⟩
 ·refine⟨⟨.inl ⟨v,d,as,rfl,r2,r3,r4,fun q=>⟨(r5 q).1,fun a ha=>?_⟩⟩,K,hos,.of_eq hg⟩,hg⟩
  cases q1:s₁.heap.get? a with
  |none=>rfl
  |some o=>
   by_cases hb:a∈tabs.map (·.2)
   ·obtain⟨_,_,ps,hP⟩:=grown a o hb q1
    exact absurd ha (readsW_apart hP rfl r3)
   ·exact nomatch ((r5 q).2 a ha).symm.trans (show(ghostOf s₁.heap tabs).get? a=some o from ghost_ne q1 hb)
 ·exact nomatch (hr _ _).symm.trans r4
end
end Ak.NG
namespace Hd
section
set_option maxHeartbeats 400000
open PySem.W.Fast
noncomputable def dL:DefRec:=⟨Str.ofString "law",fA (sT 23),fB (sT 23),fS (sT 23),⟨295,0,321,15⟩⟩
theorem iy:PySem.Challenge.rw_km0029_02.wellSaid=true:=by
 rw[te9446332074065402090];kernel_rfl
theorem gh:defOf q (Str.ofString "law")=some (dL,[]):=by kernel_rfl
theorem iM:pg.theDef (Str.ofString "law")=some (dL.params,dL.body,dL.scope):=by kernel_rfl
theorem lG:kwWritten? dL.params.kwonlyargs dL.params.kw_defaults=some []:=by kernel_rfl
theorem lT:(chainsOk q && opensWell pg && (frees fQ && fQ.within.isEmpty))=true:=by kernel_rfl
theorem whole:pg.tablesWhole=true:=by kernel_rfl
theorem hd(h:Ak.NG.Walk q loose (XL q []) (kmHook kf Vv H6 [305]).says fQ dL [] fun f vs=>PySem.call f vs):PySem.Challenge.rw_km0029_02.Holds:=by
 refine holds_law iy fun k1=>?_
 refine Ak.NG.holds (q:=q) (loose:=loose) (Xt:=Xt) (XP:=XL q []) (YP:=(kmHook kf Vv H6 [305]).says) (d:=dL) (kwd:=[]) (N:=20000) left (kmHook kf Vv H6 [305]).of (kmHook kf Vv H6 [305]).keeps (fun s e=>xl_of s (zz.mp e).1) XL.keeps gh iM lG (fun s e=>recFacts_of (zz.mp e).2) rfl k1 lT ⟨rfl,rfl,rfl,rfl,rfl,whole⟩ ?_ h
 exact⟨[.list []],by decide+kernel,by decide+kernel⟩
end
end Hd
namespace Ak
section
structure Rec where
 ρ:List Addr
 ω:List Addr
 zs:List (Addr×Obj)
 ex:List (Addr×Obj)
 sd:Option (Addr×Addr)
structure Rec.le(R R':Rec):Prop where
 ρ:∃t,R'.ρ=R.ρ++t
 ω:∃t,R'.ω=R.ω++t
 zs:∀p∈R.zs,p∈R'.zs
 ex:R'.ex=R.ex
 sd:R'.sd=R.sd
theorem Rec.le.refl(R:Rec):R.le R:=⟨⟨[],(zL _).symm⟩,⟨[],(zL _).symm⟩,fun _ h=>h,rfl,rfl⟩
theorem Rec.le.trans{R R' R'':Rec}(a:R.le R')(b:R'.le R''):R.le R'':=by
 refine zg a.ρ fun t h1=>?_;refine zg b.ρ fun t' h2=>?_;refine zg a.ω fun u h3=>?_;refine zg b.ω fun u' h4=>?_
 exact⟨⟨t++t',by rw[h2,h1,zk]⟩,⟨u++u',by rw[h4,h3,zk]⟩,fun p h=>b.zs p (a.zs p h),b.ex.trans a.ex,b.sd.trans a.sd⟩
noncomputable def kindS:Bool→String
 |true=>"tuple"
 |false=>"list"
noncomputable abbrev seqObj(tup:Bool)(vs:List Value)(n:Nat):Obj:={cls:=.type (kindS tup),data:=.seq vs.toArray n}
noncomputable abbrev DF(st pat:Value)(p l i:Int)(tp:Addr):Obj:={cls:=.type "re.Match",data:=.fields #[st,pat,rawInt p,rawInt l,rawInt i,.ref tp]}
noncomputable abbrev Fh(a:Addr):Obj:={cls:=.type "builtin_function_or_method",data:=.fields #[.builtin "list.append",.ref a]}
noncomputable def Iy(Z:Addr→Obj→Prop)(a:Addr)(tup:Bool)(vs:List Value)(n:Nat):Prop:=∃o,Z a o∧o.cls=.type (kindS tup)∧o.data=.seq vs.toArray n
theorem Iy.of{Z:Addr→Obj→Prop}{a:Addr}{tup:Bool}{vs:List Value}{n:Nat}(h:Z a (seqObj tup vs n)):Iy Z a tup vs n:=⟨_,h,rfl,rfl⟩
theorem Iy.mono{Z Z':Addr→Obj→Prop}(hz:∀a o,Z a o→Z' a o){a:Addr}{tup:Bool}{vs:List Value}{n:Nat}(h:Iy Z a tup vs n):Iy Z' a tup vs n:=let⟨o,x,y⟩:=h;⟨o,hz _ _ x,y⟩
mutual
inductive VR(PC:Addr)(Z:Addr→Obj→Prop)(ρ:List Addr):Val→Value→Prop
 |none:VR PC Z ρ .none .none
 |bool (b:Bool):VR PC Z ρ (.bool b) (.bool b)
 |int (i:Int) (t:Tok):VR PC Z ρ (.int i) (.int i t)
 |str (x:Txt) (t:Tok) (h:x.length≤Az):VR PC Z ρ (.str x) (.str ⟨x.toArray⟩ t)
 |seq {tup:Bool} {xs:List Val} {a:Addr} {vs:List Value} {n:Nat} (h:Iy Z a tup vs n) (hl:xs.length≤Az) (hs:Bv PC Z ρ xs vs):VR PC Z ρ (.seq tup xs) (.ref a)
 |obj {d:Nat} {x dx:Addr} (h:Z x (instObj PC dx)) (hd:ρ[d]? =some dx):VR PC Z ρ (.obj d) (.ref x)
 |mt {s e:Nat} {a tp:Addr} {st pat:Value} {p l i:Int} {n:Nat} (h:Z a (DF st pat p l i tp)) (ht:Z tp (seqObj true [rawInt s,rawInt e] n)):VR PC Z ρ (.mt s e) (.ref a)
inductive Bv(PC:Addr)(Z:Addr→Obj→Prop)(ρ:List Addr):List Val→List Value→Prop
 |nil:Bv PC Z ρ [] []
 |cons {x:Val} {v:Value} {xs:List Val} {vs:List Value} (h:VR PC Z ρ x v) (hs:Bv PC Z ρ xs vs):Bv PC Z ρ (x::xs) (v::vs)
end
noncomputable def i6(PC:Addr)(Z:Addr→Obj→Prop)(ρ:List Addr):Val→Value→Prop
 | .none,v=>v=.none
 | .bool b,v=>v=.bool b
 | .int i,v=>∃t,v=.int i t
 | .str x,v=>∃t,x.length≤Az∧v=.str ⟨x.toArray⟩ t
 | .seq tup xs,v=>∃a vs n,v=.ref a∧Iy Z a tup vs n∧xs.length≤Az∧Bv PC Z ρ xs vs
 | .obj d,v=>∃x dx,v=.ref x∧Z x (instObj PC dx)∧ρ[d]? =some dx
 | .mt s e,v=>∃a tp st pat p l i n,v=.ref a∧Z a (DF st pat p l i tp)∧Z tp (seqObj true [rawInt s,rawInt e] n)
theorem VR.inv{PC:Addr}{Z:Addr→Obj→Prop}{ρ:List Addr}{x:Val}{v:Value}(h:VR PC Z ρ x v):i6 PC Z ρ x v:=
 VR.casesOn (motive_1:=fun x v _=>i6 PC Z ρ x v) h rfl (fun _=>rfl) (fun _ t=>⟨t,rfl⟩) (fun _ t h=>⟨t,h,rfl⟩) (fun h hl hs=>⟨_,_,_,rfl,h,hl,hs⟩) (fun h hd=>⟨_,_,rfl,h,hd⟩) (fun h ht=>⟨_,_,_,_,_,_,_,_,rfl,h,ht⟩)
noncomputable def Zu(PC:Addr)(Z:Addr→Obj→Prop)(ρ:List Addr):List Val→List Value→Prop
 |[],vs=>vs=[]
 |x::xs,vs=>∃v ws,vs=v::ws∧VR PC Z ρ x v∧Bv PC Z ρ xs ws
theorem Bv.inv{PC:Addr}{Z:Addr→Obj→Prop}{ρ:List Addr}{xs:List Val}{vs:List Value}(h:Bv PC Z ρ xs vs):Zu PC Z ρ xs vs:=
 Bv.casesOn (motive_2:=fun x v _=>Zu PC Z ρ x v) h rfl fun h hs=>⟨_,_,rfl,h,hs⟩
theorem Bv.Cc{PC:Addr}{Z:Addr→Obj→Prop}{ρ:List Addr}{x:Val}{xs:List Val}{vs:List Value}(h:Bv PC Z ρ (x::xs) vs):∃v ws,vs=v::ws∧VR PC Z ρ x v∧Bv PC Z ρ xs ws:=h.inv
theorem Bv.Fu{PC:Addr}{Z:Addr→Obj→Prop}{ρ:List Addr}{vs:List Value}(h:Bv PC Z ρ [] vs):vs=[]:=h.inv
theorem Ki{l l':List Addr}(hr:∃t,l'=l++t){k:Nat}{a:Addr}(h:l[k]? =some a):l'[k]? =some a:=by
 refine zg hr fun t e=>?_
 rw[e,zM (zu.mp h).1];exact h
theorem VR.mono{PC:Addr}{Z Z':Addr→Obj→Prop}{ρ ρ':List Addr}(hz:∀a o,Z a o→Z' a o)(hr:∃t,ρ'=ρ++t){x:Val}{v:Value}(h:VR PC Z ρ x v):VR PC Z' ρ' x v:=
 VR.rec (motive_1:=fun x v _=>VR PC Z' ρ' x v) (motive_2:=fun xs vs _=>Bv PC Z' ρ' xs vs) .none (fun b=>.bool b) (fun i t=>.int i t) (fun x t h=>.str x t h) (fun h hl _ ih=>.seq (h.mono hz) hl ih)
  (fun h hd=>.obj (hz _ _ h) (Ki hr hd)) (fun h ht=>.mt (hz _ _ h) (hz _ _ ht)) .nil (fun _ _ a b=>.cons a b) h
section
variable {PC:Addr}{Z:Addr→Obj→Prop}{ρ:List Addr}{xs ys:List Val}{vs us:List Value}
theorem Bv.mono{Z':Addr→Obj→Prop}{ρ':List Addr}(hz:∀a o,Z a o→Z' a o)(hr:∃t,ρ'=ρ++t):∀{vs},Bv PC Z ρ xs vs→Bv PC Z' ρ' xs vs:=by
 induction xs with
 |nil=>intro vs h;rw[Bv.Fu h];exact .nil
 |cons x xs ih=>intro vs h;refine Ba (Bv.Cc h) fun v ws e a b=>?_;rw[e];exact .cons (a.mono hz hr) (ih b)
theorem Bv.length:∀{vs},Bv PC Z ρ xs vs→vs.length=xs.length:=by
 induction xs with
 |nil=>intro vs h;rw[Bv.Fu h];rfl
 |cons x xs ih=>intro vs h;refine Ba (Bv.Cc h) fun v ws e a b=>?_;rw[e];exact zB (· +1) (ih b)
theorem Bv.get:∀{vs:List Value} {k:Nat} {x:Val},Bv PC Z ρ xs vs→xs[k]? =some x→∃v,vs[k]? =some v∧VR PC Z ρ x v:=by
 induction xs with
 |nil=>exact fun _ e=>nomatch (Jq.symm.trans e:none=some _)
 |cons y xs ih=>
  intro vs k x h e
  refine Ba (Bv.Cc h) fun v ws e' a b=>?_
  rw[e']
  induction k using zE with
  |zero=>exact⟨v,rfl,ze e▸a⟩
  |succ k=>exact ih (vs:=ws) b e
theorem Bv.append:∀{vs},Bv PC Z ρ xs vs→Bv PC Z ρ ys us→Bv PC Z ρ (xs++ys) (vs++us):=by
 induction xs with
 |nil=>intro vs h h';rw[Bv.Fu h];exact h'
 |cons x xs ih=>intro vs h h';refine Ba (Bv.Cc h) fun v ws e a b=>?_;rw[e];exact .cons a (ih b h')
theorem Bv.take:∀{vs:List Value} (k:Nat),Bv PC Z ρ xs vs→Bv PC Z ρ (xs.take k) (vs.take k):=by
 induction xs with
 |nil=>intro vs k h;rw[Bv.Fu h];induction k using zE <;>exact .nil
 |cons x xs ih=>
  intro vs k h;refine Ba (Bv.Cc h) fun v ws e a b=>?_;rw[e]
  induction k using zE with
  |zero=>exact .nil
  |succ k=>exact .cons a (ih k b)
theorem Bv.drop:∀{vs:List Value} (k:Nat),Bv PC Z ρ xs vs→Bv PC Z ρ (xs.drop k) (vs.drop k):=by
 induction xs with
 |nil=>intro vs k h;rw[Bv.Fu h];induction k using zE <;>exact .nil
 |cons x xs ih=>
  intro vs k h;refine Ba (Bv.Cc h) fun v ws e a b=>?_;rw[e]
  induction k using zE with
  |zero=>exact .cons a b
  |succ k=>exact ih k b
end
structure PH where
 nm:Str
 nk:Str
 qual:Str
 params:Arguments
 scope:Scope
 p1:Pos
 p2:Pos
 p3:Pos
noncomputable def PH.body(L:PH):PySem.Expr:=.Subscript (.Name L.nm L.p1) (.Name L.nk L.p2) L.p3
structure Cx where
 prog:Program
 w:World
 K:Frag
 PC:Addr
 B0:Heap
 attrs:List Str
 self:Str
 fad:List Addr
 gl:List (Str×Val)
 mth:Nat→Bool
 lam:PH
noncomputable def Cx.Z(c:Cx)(R:Rec):Addr→Obj→Prop:=fun a o=>c.B0.get? a=some o∨(a,o)∈R.zs
noncomputable abbrev Cx.V(c:Cx)(R:Rec):Val→Value→Prop:=VR c.PC (c.Z R) R.ρ
noncomputable abbrev Cx.Vs(c:Cx)(R:Rec):List Val→List Value→Prop:=Bv c.PC (c.Z R) R.ρ
theorem Cx.Z.mono{c:Cx}{R R':Rec}(h:R.le R'):∀a o,c.Z R a o→c.Z R' a o:=fun _ _ x=>x.imp id fun y=>h.zs _ y
theorem V.up{c:Cx}{R R':Rec}(h:R.le R'){x:Val}{v:Value}(y:c.V R x v):c.V R' x v:=VR.mono (Cx.Z.mono h) h.ρ y
theorem Vs.up{c:Cx}{R R':Rec}(h:R.le R'){x:List Val}{v:List Value}(y:c.Vs R x v):c.Vs R' x v:=Bv.mono (Cx.Z.mono h) h.ρ y
inductive Nc(c:Cx)(R:Rec)(xs:List Val)(q:Addr):Prop
 |mk (pm:Value) (c':Addr) (ctv:Value) (oc:Obj) (vs:Array Value) (t:Tok) (ca:Addr) (oca:Obj) (la:Addr) (ws:List Value) (n:Nat) (h1:(q,kla_obj "<lambda>" c.lam.qual c.lam.params c.lam.body c.lam.scope [(c.lam.nm,ca)] pm c' ctv)∈R.zs) (h2:(c',oc)∈R.zs) (h3:oc.data=.fields vs) (h4:vs[1]? =some (.str c.lam.qual t))
  (h5:(ca,oca)∈R.zs) (h6:oca.data=.cell (some (.ref la))) (h7:Iy (c.Z R) la false ws n) (h8:c.Vs R xs ws) (h9:xs.length≤Az):Nc c R xs q
theorem Nc.mono{c:Cx}{R R':Rec}(hz:∀p∈R.zs,p∈R'.zs)(hr:∃t,R'.ρ=R.ρ++t){xs:List Val}{q:Addr}(h:Nc c R xs q):Nc c R' xs q:=by
 have zm:∀a o,c.Z R a o→c.Z R' a o:=fun _ _ z=>z.imp id fun z=>hz _ z
 induction h using Nc.casesOn with
 |mk pm c' ctv oc vs t ca oca la ws n h1 h2 h3 h4 h5 h6 h7 h8 h9=>exact⟨pm,c',ctv,oc,vs,t,ca,oca,la,ws,n,hz _ h1,hz _ h2,h3,h4,hz _ h5,h6,h7.mono zm,Bv.mono zm hr h8,h9⟩
inductive LR(c:Cx)(R:Rec):LV→Value→Prop
 |v {x:Val} {rv:Value} (h:c.V R x rv):LR c R (.v x) rv
 |loc {k:Nat} {a:Addr} (h:R.ω[k]? =some a):LR c R (.loc k) (.ref a)
 |app {k:Nat} {a q:Addr} (h:R.ω[k]? =some a) (hq:c.Z R q (Fh a)):LR c R (.app k) (.ref q)
 |fn {xs:List Val} {q:Addr} (h:Nc c R xs q):LR c R (.fn xs) (.ref q)
theorem LR.up{c:Cx}{R R':Rec}(h:R.le R'){x:LV}{v:Value}(y:LR c R x v):LR c R' x v:=by
 induction y using LR.casesOn with
 |v y=>exact .v (V.up h y)
 |loc e=>exact .loc (Ki h.ω e)
 |app e q=>exact .app (Ki h.ω e) (Cx.Z.mono h _ _ q)
 |fn z=>exact .fn (z.mono h.zs h.ρ)
structure Fx where
 cn:Str
 cs:Scope
 L:Addr
 fa:Addr
 cd:Value
 cl:List (Str×Addr)
 h₀:Heap
 names:List Str
noncomputable abbrev Fx.env(f:Fx):Env:=envX f.cn f.cs f.L f.fa f.cd f.cl
noncomputable def cnt{α:Type}:List (Option α)→Nat
 |[]=>0
 |none::r=>cnt r
 |some _::r=>cnt r+1
noncomputable def Aj(c:Cx)(R:Rec)(fs:List (Option LV))(es:List DictEntry):Prop:=
 (∀(k:Nat) (n:Str),c.attrs[k]? =some n→match Ax fs k with
  |some v=>∃rv,getL n es=some (some rv)∧LR c R v rv
  |none=>getL n es=some none)∧
 (∀n,n∉c.attrs→getL n es=some none)∧es.length≤cnt fs∧fs.length=c.attrs.length
noncomputable def Hr(f:Fx)(R:Rec)(a:Addr):Prop:=a∈R.ρ∨a∈R.ω∨a∈f.cl.map (·.2)∨∃x,R.sd=some (x,a)
structure RelL(c:Cx)(f:Fx)(R:Rec)(σ:St)(m:Str→Option Value)(led:List (Addr×Obj)):Prop where
 nd:(led.map (·.1)).Nodup
 slots:∀(k:Nat) (n:Str) (v:LV),f.names[k]? =some n→Ax σ.loc k=some v→match f.cs.names.lookup n with
  |some .local=>∃rv,m n=some rv∧LR c R v rv
  |some _=>∃a o rv,f.cl.lookup n=some a∧(a,o)∈led∧o.data=.cell (some rv)∧LR c R v rv
  |none=>False
 clo:∀n a,f.cl.lookup n=some a→∃o v,(a,o)∈led∧o.data=.cell v
 self:∀x dx,R.sd=some (x,dx)→m c.self=some (.ref x)∧c.Z R x (instObj c.PC dx)∧∃es n,(dx,dictOf es n)∈led∧Aj c R σ.self es
 self0:R.sd=none→σ.self=[]
 ml:∀a,Hr f R a→a∈led.map (·.1)
 hlen:R.ρ.length=σ.heap.length
 cells:∀(j:Nat) (fs:List (Option Val)),σ.heap[j]? =some (Ak.Cell.flds fs)→∃a es n,R.ρ[j]? =some a∧(a,dictOf es n)∈led∧Aj c R (BD fs) es
 oln:R.ω.length=G1 σ.own
 owns:∀(k:Nat) (xs:List Val),CW σ.own k=some xs→∃a vs n,R.ω[k]? =some a∧(a,seqObj false vs n)∈led∧xs.length≤Az∧c.Vs R xs vs
 zs:∀p∈R.zs,p∈led
 ex:∀p∈R.ex,p∈led
 D1:(R.ρ++R.ω++f.cl.map (·.2)).Nodup
 D2:∀x dx,R.sd=some (x,dx)→dx∉R.ω∧dx∉f.cl.map (·.2)∧∀(j:Nat) (fs:List (Option Val)),σ.heap[j]? =some (Ak.Cell.flds fs)→R.ρ[j]? ≠some dx
 D3:∀a,Hr f R a→∀p∈R.zs++R.ex,p.1≠a
 D4:∀p∈R.zs,∀q∈R.ex,p.1≠q.1
 B:c.B0.StaysIn f.h₀
structure RelF(f:Fx)(h:Heap)(m:Str→Option Value)(led:List (Addr×Obj)):Prop where
 F:Fr f.h₀ f.L h m
 N:News f.h₀ f.L h led
structure Rel(c:Cx)(f:Fx)(R:Rec)(σ:St)(h:Heap)(m:Str→Option Value)(led:List (Addr×Obj)):Prop extends RelF f h m led,RelL c f R σ m led
structure Ar(s s':Shared):Prop where
 gens:s'.gens=s.gens
 drawn:s'.drawn=s.drawn
 os:s'.os=s.os
 tk:s.toks≤s'.toks
theorem Ar.refl(s:Shared):Ar s s:=⟨rfl,rfl,rfl,zw _⟩
theorem Ar.trans{a b d:Shared}(x:Ar a b)(y:Ar b d):Ar a d:=⟨y.gens.trans x.gens,y.drawn.trans x.drawn,y.os.trans x.os,zl x.tk y.tk⟩
theorem wpAny_toks{α:Type}{M:Model}{A:Around}{t:Sem α}{Q:α→Shared→Prop}{E:Value→Shared→Prop}{s:Shared}(h:wpAny M A t Q E s):
  wpAny M A t (fun a s'=>Q a s'∧s.toks≤s'.toks) (fun e s'=>E e s'∧s.toks≤s'.toks) s:=
 zZ (PySem.wpAny_toks h) (fun _ _ x=>⟨x.2,x.1⟩) fun _ _ x=>⟨x.2,x.1⟩
theorem Gl{α:Type}{M:Model}{A:Around}{t:Sem α}{Q:α→Shared→Prop}{E:Value→Shared→Prop}{s:Shared}(h:wpAny M A t (fun a s'=>s.toks≤s'.toks→Q a s') E s):wpAny M A t Q E s:=
 zZ (wpAny_toks h) (fun _ _ h=>h.1 h.2) fun _ _ h=>h.1
noncomputable def Al(c:Cx)(f:Fx)(R:Rec)(σ:St)(h:Heap):Prop:=∃m led,Rel c f R σ h m led
noncomputable def put(a:Addr)(o':Obj)(led:List (Addr×Obj)):List (Addr×Obj):=led.map fun p=>if p.1=a then(a,o')else p
theorem B5(a:Addr)(o':Obj)(led:List (Addr×Obj)):(put a o' led).map (·.1)=led.map (·.1):=by
 unfold put
 rw[List.map_map]
 refine List.map_congr_left fun p _=>?_
 show(if p.1=a then(a,o')else p).1=p.1
 by_cases h:p.1=a
 ·rw[zX h];exact h.symm
 ·rw[zP h]
theorem AK{a b:Addr}{o o':Obj}{led:List (Addr×Obj)}(h:(b,o)∈led)(hne:b≠a):(b,o)∈put a o' led:=zK.mpr ⟨(b,o),h,zP hne⟩
theorem B3{a:Addr}{o o':Obj}{led:List (Addr×Obj)}(h:(a,o)∈led):(a,o')∈put a o' led:=zK.mpr ⟨(a,o),h,zX rfl⟩
theorem RP{a:Addr}{o':Obj}{led:List (Addr×Obj)}(h:∀p∈led,p.1≠a):put a o' led=led:=
 (List.map_congr_left fun p hp=>zP (h p hp)).trans (List.map_id led)
theorem RO{a:Addr}{o o':Obj}{r:List (Addr×Obj)}(h:∀p∈r,p.1≠a):put a o' ((a,o)::r)=(a,o')::r:=by
 show(if(a,o).1=a then(a,o')else(a,o))::put a o' r=_
 rw[zX rfl,RP h]
theorem RQ{a:Addr}{o':Obj}{p:Addr×Obj}{r:List (Addr×Obj)}(h:p.1≠a):put a o' (p::r)=p::put a o' r:=by
 show(if p.1=a then(a,o')else p)::put a o' r=_
 rw[zP h]
theorem L6{a:Addr}{o:Obj}{led:List (Addr×Obj)}:(a,o)∈led→(led.map (·.1)).Nodup→UpdF a o led (fun o'=>put a o' led):=by
 induction led with
 |nil=>exact fun h=>nomatch h
 |cons p r ih=>
  intro hm hn
  have hn:=jU.mp hn
  induction z5.mp hm using jI with
  |inl e=>
   have hr:∀p∈r,p.1≠a:=fun q hq e'=>hn.1 (zK.mpr ⟨q,hq,e'.trans (zB Prod.fst e)⟩)
   rw[←e,show(fun o'=>put a o' ((a,o)::r))=fun o'=>(a,o')::r from funext fun _=>RO hr]
   exact .head hr
  |inr hm'=>
   have hne:p.1≠a:=fun e=>hn.1 (zK.mpr ⟨(a,o),hm',e.symm⟩)
   rw[show(fun o'=>put a o' (p::r))=fun o'=>p::put a o' r from funext fun _=>RQ hne]
   exact .tail hne (ih hm' hn.2)
theorem Ok{a:Addr}{o:Obj}(o':Obj){led:List (Addr×Obj)}:(a,o)∈led→(led.map (·.1)).Nodup→Upd a o o' led (put a o' led):=by
 induction led with
 |nil=>exact fun h=>nomatch h
 |cons p r ih=>
  intro hm hn
  have hn:=jU.mp hn
  induction z5.mp hm using jI with
  |inl e=>
   have hr:∀p∈r,p.1≠a:=fun q hq e'=>hn.1 (zK.mpr ⟨q,hq,e'.trans (zB Prod.fst e)⟩)
   rw[←e,RO hr]
   exact .head hr
  |inr hm'=>
   have hne:p.1≠a:=fun e=>hn.1 (zK.mpr ⟨(a,o),hm',e.symm⟩)
   rw[RQ hne]
   exact .tail hne (ih hm' hn.2)
end
section
theorem H7{α:Type}{l:List (Option α)}:∀{k j:Nat} {v u:α},Ax (Bg l k v) j=some u→(j=k∧u=v)∨(j≠k∧Ax l j=some u):=by
 induction l with
 |nil=>exact fun h=>nomatch h
 |cons x r ih=>
  intro k j v u h
  induction k using zE with
  |zero=>induction j using zE with
   |zero=>exact .inl ⟨rfl,(ze h).symm⟩
   |succ j=>exact .inr ⟨jO j,h⟩
  |succ k=>induction j using zE with
   |zero=>exact .inr ⟨(jO k).symm,h⟩
   |succ j=>exact(ih h).imp (fun p=>⟨zB (· +1) p.1,p.2⟩) (fun p=>⟨fun e=>p.1 (Nat.succ.inj e),p.2⟩)
theorem I8{α:Type}{l:List (Option α)}:∀{k j:Nat} {v:α},j≠k→Ax (Bg l k v) j=Ax l j:=by
 induction l with
 |nil=>exact fun _=>rfl
 |cons x r ih=>
  intro k j v h
  induction k using zE with
  |zero=>induction j using zE with
   |zero=>exact absurd rfl h
   |succ j=>rfl
  |succ k=>induction j using zE with
   |zero=>rfl
   |succ j=>exact ih fun e=>h (zB (· +1) e)
theorem GW{α:Type}{l:List (Option α)}:∀{k:Nat} {v:α},k < l.length→Ax (Bg l k v) k=some v:=by
 induction l with
 |nil=>exact fun h=>absurd h (jt _)
 |cons x r ih=>
  intro k v h
  induction k using zE with
  |zero=>rfl
  |succ k=>exact ih (jB h)
theorem FS{α:Type}(l:List (Option α)):∀(k:Nat) (v:α),(Bg l k v).length=l.length:=by
 induction l with
 |nil=>exact fun _ _=>rfl
 |cons x r ih=>
  intro k v
  induction k using zE with
  |zero=>rfl
  |succ k=>exact zB (· +1) (ih k v)
theorem Cm(o:List (List Val)):G1 o=o.length:=by
 induction o with
 |nil=>rfl
 |cons _ r ih=>exact zB (· +1) ih
theorem DB(o:List (List Val)):∀(k:Nat),CW o k=o[k]? :=by
 induction o with
 |nil=>exact fun k=>by induction k using zE <;>rfl
 |cons _ r ih=>
  intro k
  induction k using zE with
  |zero=>rfl
  |succ k=>exact ih k
theorem G3(o:List (List Val))(v:List Val):Fa o v=o++[v]:=by
 induction o with
 |nil=>rfl
 |cons x r ih=>exact zB (x::·) ih
theorem NU(o:List (List Val)):∀(k:Nat) (v:List Val),oset o k v=o.set k v:=by
 induction o with
 |nil=>exact fun k v=>by induction k using zE <;>rfl
 |cons x r ih=>
  intro k v
  induction k using zE with
  |zero=>rfl
  |succ k=>exact zB (x::·) (ih k v)
theorem MF(fs:List (Option Val)):(BD fs).length=fs.length:=by
 induction fs with
 |nil=>rfl
 |cons x r ih=>induction x using zh <;>exact zB (· +1) ih
section
variable {c:Cx}{f:Fx}{R:Rec}{σ:St}{h h':Heap}{m m':Str→Option Value}{led led':List (Addr×Obj)}
theorem Cz{f:Fx}{m:Str→Option Value}{led led':List (Addr×Obj)}{P P':Value→Prop}{n:Str}(hl:∀a o,f.cl.lookup n=some a→(a,o)∈led→(a,o)∈led')(hP:∀rv,P rv→P' rv)
  (h:match f.cs.names.lookup n with |some .local=>∃rv,m n=some rv∧P rv |some _=>∃a o rv,f.cl.lookup n=some a∧(a,o)∈led∧o.data=.cell (some rv)∧P rv |none=>False):
  match f.cs.names.lookup n with |some .local=>∃rv,m n=some rv∧P' rv |some _=>∃a o rv,f.cl.lookup n=some a∧(a,o)∈led'∧o.data=.cell (some rv)∧P' rv |none=>False:=by
 have one:(∃rv,m n=some rv∧P rv)→∃rv,m n=some rv∧P' rv:=fun h=>Ab h fun rv a b=>⟨rv,a,hP _ b⟩
 have two:(∃a o rv,f.cl.lookup n=some a∧(a,o)∈led∧o.data=.cell (some rv)∧P rv)→∃a o rv,f.cl.lookup n=some a∧(a,o)∈led'∧o.data=.cell (some rv)∧P' rv:=
  fun h=>AR h fun a o rv a1 a2 a3 a4=>⟨a,o,rv,a1,hl _ _ a1 a2,a3,hP _ a4⟩
 revert h
 induction f.cs.names.lookup n using zh with
 |none=>exact id
 |some kd=>cases kd <;>first |exact one |exact two
theorem Aj.up{R R':Rec}(hle:R.le R'){fs:List (Option LV)}{es:List DictEntry}(x:Aj c R fs es):Aj c R' fs es:=by
 refine⟨fun k n hk=>?_,x.2.1,x.2.2⟩
 have:=x.1 k n hk
 induction hl:Ax fs k using zh with
 |none=>rw[hl]at this;exact this
 |some v=>rw[hl]at this;refine Ab this fun rv a b=>?_;exact⟨rv,a,b.up hle⟩
theorem Rel.heap(r:Rel c f R σ h m led)(F:Fr f.h₀ f.L h' m)(N:News f.h₀ f.L h' led):Rel c f R σ h' m led:={r with F:=F,N:=N}
theorem Rel.get(r:Rel c f R σ h m led){a:Addr}{o:Obj}(hz:c.Z R a o):h.get? a=some o:=by
 rcases hz with hz |hz
 ·exact r.F.keep _ _ (r.B _ _ hz)
 ·exact r.N.get (r.zs _ hz)
theorem Rel.BN(r:Rel c f R σ h m led){a:Addr}{o:Obj}(hz:(a,o)∈led):h.get? a=some o:=r.N.get hz
theorem Rel.Qw(r:Rel c f R σ h m led){a:Addr}(hf:∀p∈led,p.1≠a)(b:Addr)(hb:Hr f R b):b≠a:=fun e=>by
 refine Ab (zK.mp (r.ml b hb)) fun p hp e'=>?_
 exact hf p hp (e'.trans e)
theorem Rel.fresh(r:Rel c f R σ h m led){a:Addr}(hf:∀p∈led,p.1 < a)(b:Addr)(hb:Hr f R b):b≠a:=r.Qw (fun p hp=>Ja (hf p hp)) b hb
theorem LC{a:Addr}{o:Obj}(nd:(led.map (·.1)).Nodup)(hf:∀p∈led,p.1≠a):(((a,o)::led).map (·.1)).Nodup:=by
 rw[JY,jU]
 refine⟨fun hm=>?_,nd⟩
 refine Ab (zK.mp hm) fun p hp e=>?_
 exact hf p hp e
theorem NS{a:Addr}{o:Obj}(nd:(led.map (·.1)).Nodup)(hf:∀p∈led,p.1 < a):(((a,o)::led).map (·.1)).Nodup:=LC nd fun p hp=>Ja (hf p hp)
theorem Rel.Tq(r:Rel c f R σ h m led){a:Addr}{o:Obj}(F:Fr f.h₀ f.L h' m)(N:News f.h₀ f.L h' ((a,o)::led))(hf:∀p∈led,p.1≠a):
  ∃R',R.le R'∧Rel c f R' σ h' m ((a,o)::led)∧(a,o)∈R'.zs∧R'.ρ=R.ρ∧R'.ω=R.ω:=by
 have le:R.le {R with zs:=(a,o)::R.zs}:=⟨⟨[],by simp⟩,⟨[],by simp⟩,fun _ h=>zC _ h,rfl,rfl⟩
 refine⟨{R with zs:=(a,o)::R.zs},le,?_,.head _,rfl,rfl⟩
 refine{F:=F,N:=N,nd:=LC r.nd hf,slots:=fun k n v hk hv=>?_,clo:=fun n a' ha=>?_,self:=fun x dx hs=>?_,self0:=r.self0,ml:=fun b hb=>zC _ (r.ml b hb),hlen:=r.hlen,cells:=fun j fs hj=>?_,oln:=r.oln,owns:=fun k xs hk=>?_,zs:=fun p hp=>?_,ex:=fun p hp=>zC _ (r.ex p hp),D1:=r.D1,D2:=r.D2,D3:=fun b hb p hp=>?_,D4:=fun p hp q hq=>?_,B:=r.B}
 ·exact Cz (fun a o a1 a2=>zC _ a2) (fun _ b=>b.up le) (r.slots k n v hk hv)
 ·refine A6 (r.clo n a' ha) fun o' v a1 a2=>?_
  exact⟨o',v,zC _ a1,a2⟩
 ·obtain⟨a1,a2,es,n,a3,a4⟩:=r.self x dx hs
  exact⟨a1,Cx.Z.mono le _ _ a2,es,n,zC _ a3,a4.up le⟩
 ·refine CS (r.cells j fs hj) fun a' es n a1 a2 a3=>?_
  exact⟨a',es,n,a1,zC _ a2,a3.up le⟩
 ·refine AR (r.owns k xs hk) fun a' vs n a1 a2 a3 a4=>?_
  exact⟨a',vs,n,a1,zC _ a2,a3,Vs.up le a4⟩
 ·rcases z5.mp hp with e |hp
  ·rw[e];exact .head _
  ·exact zC _ (r.zs p hp)
 ·rcases zF.mp hp with hp |hp
  ·rcases z5.mp hp with e |hp
   ·rw[e];exact fun e'=>r.Qw hf b hb e'.symm
   ·exact r.D3 b hb p (zr _ hp)
  ·exact r.D3 b hb p (zj _ hp)
 ·rcases z5.mp hp with e |hp
  ·rw[e];exact fun e'=>hf q (r.ex q hq) e'.symm
  ·exact r.D4 p hp q hq
theorem Rel.frozen(r:Rel c f R σ h m led){a:Addr}{o:Obj}(F:Fr f.h₀ f.L h' m)(N:News f.h₀ f.L h' ((a,o)::led))(hf:∀p∈led,p.1 < a):
  ∃R',R.le R'∧Rel c f R' σ h' m ((a,o)::led)∧(a,o)∈R'.zs∧R'.ρ=R.ρ∧R'.ω=R.ω:=r.Tq F N fun p hp=>Ja (hf p hp)
theorem Rel.MH(r:Rel c f R σ h m led){a:Addr}{vs:List Value}{n:Nat}{xs:List Val}(F:Fr f.h₀ f.L h' m)(N:News f.h₀ f.L h' ((a,seqObj false vs n)::led))(hf:∀p∈led,p.1 < a)
  (hx:c.Vs R xs vs) (hl:xs.length≤Az):
  ∃R',R.le R'∧Rel c f R' ⟨σ.loc,Fa σ.own xs,σ.self,σ.heap⟩ h' m ((a,seqObj false vs n)::led)∧R'.ω[G1 σ.own]? =some a:=by
 have le:R.le {R with ω:=R.ω++[a]}:=⟨⟨[],by simp⟩,⟨[a],rfl⟩,fun _ h=>h,rfl,rfl⟩
 refine⟨{R with ω:=R.ω++[a]},le,?_,by rw[←r.oln];simp⟩
 have mut':∀b,Hr f {R with ω:=R.ω++[a]} b→b=a∨Hr f R b:=fun b hb=>by
  rcases hb with hb |hb |hb |hb
  ·exact .inr (.inl hb)
  ·rcases zF.mp hb with hb |hb
   ·exact .inr (.inr (.inl hb))
   ·exact .inl (zI.mp hb)
  ·exact .inr (.inr (.inr (.inl hb)))
  ·exact .inr (.inr (.inr (.inr hb)))
 refine{F:=F,N:=N,nd:=NS r.nd hf,slots:=fun k n v hk hv=>?_,clo:=fun n a' ha=>?_,self:=fun x dx hs=>?_,self0:=r.self0,ml:=fun b hb=>?_,hlen:=r.hlen,cells:=fun j fs hj=>?_,oln:=?_,owns:=fun k xs' hk=>?_,zs:=fun p hp=>zC _ (r.zs p hp),ex:=fun p hp=>zC _ (r.ex p hp),D1:=?_,D2:=fun x dx hs=>?_,D3:=fun b hb p hp=>?_,D4:=r.D4,B:=r.B}
 ·exact Cz (fun a o a1 a2=>zC _ a2) (fun _ b=>b.up le) (r.slots k n v hk hv)
 ·refine A6 (r.clo n a' ha) fun o' v a1 a2=>?_
  exact⟨o',v,zC _ a1,a2⟩
 ·obtain⟨a1,a2,es,n,a3,a4⟩:=r.self x dx hs
  exact⟨a1,Cx.Z.mono le _ _ a2,es,n,zC _ a3,a4.up le⟩
 ·rcases mut' b hb with e |hb
  ·subst e;exact .head _
  ·exact zC _ (r.ml b hb)
 ·refine CS (r.cells j fs hj) fun a' es n a1 a2 a3=>?_
  exact⟨a',es,n,a1,zC _ a2,a3.up le⟩
 ·show(R.ω++[a]).length=G1 (Fa σ.own xs)
  rw[Cm,G3,zd,zd,r.oln,Cm];rfl
 ·rw[show(⟨σ.loc,Fa σ.own xs,σ.self,σ.heap⟩:St).own=σ.own++[xs]from G3 _ _,DB]at hk
  by_cases hlt:k < σ.own.length
  ·rw[zM hlt]at hk
   refine AR (r.owns k xs' (by rw[DB];exact hk)) fun a' vs' n' a1 a2 a3 a4=>?_
   refine⟨a',vs',n',?_,zC _ a2,a3,Vs.up le a4⟩
   rw[zM (by rw[r.oln,Cm];exact hlt)];exact a1
  ·rw[zU (by lia)]at hk
   have hk0:k - σ.own.length=0:=by
    induction q:k - σ.own.length using zE with
    |zero=>rfl
    |succ j=>rw[q]at hk;simp at hk
   rw[hk0]at hk
   simp only[List.getElem?_cons_zero,Option.some.injEq]at hk
   subst hk
   refine⟨a,vs,n,?_,.head _,hl,Vs.up le hx⟩
   have hkl:k=R.ω.length:=by rw[r.oln,Cm];lia
   rw[hkl];simp
 ·have D:=r.D1
  have ha:a∉R.ρ++R.ω++f.cl.map (·.2):=fun hm=>by
   have:Hr f R a:=by
    rcases zF.mp hm with hm |hm
    ·rcases zF.mp hm with hm |hm
     ·exact .inl hm
     ·exact .inr (.inl hm)
    ·exact .inr (.inr (.inl hm))
   exact r.fresh hf a this rfl
  have:(R.ρ++(R.ω++[a])++f.cl.map (·.2)).Perm (a::(R.ρ++R.ω++f.cl.map (·.2))):=by
   rw[←zk]
   refine List.Perm.trans ?_ List.perm_middle
   rw[zk]
   exact List.Perm.refl _
  exact this.nodup_iff.mpr (jU.mpr ⟨ha,D⟩)
 ·refine Bi (r.D2 x dx hs) fun b1 b2 b3=>?_
  refine⟨fun hm=>?_,b2,b3⟩
  rcases zF.mp hm with hm |hm
  ·exact b1 hm
  ·exact r.fresh hf dx (.inr (.inr (.inr ⟨x,hs⟩))) (zI.mp hm)
 ·rcases mut' b hb with e |hb
  ·subst e
   have:p∈led:=by
    rcases zF.mp hp with hp |hp
    ·exact r.zs p hp
    ·exact r.ex p hp
   exact fun e=>absurd (hf p this) (by rw[e];exact Jm _)
  ·exact r.D3 b hb p hp
theorem Gx(D:(R.ρ++R.ω++f.cl.map (·.2)).Nodup){a b:Addr}(ha:a∈R.ρ)(hb:b∈R.ω):a≠b:=by
 rw[zk]at D
 exact(z8.mp D).2.2 a ha b (zr _ hb)
theorem GC(D:(R.ρ++R.ω++f.cl.map (·.2)).Nodup){a b:Addr}(ha:a∈R.ρ)(hb:b∈f.cl.map (·.2)):a≠b:=
 (z8.mp D).2.2 a (zr _ ha) b hb
theorem Ma(D:(R.ρ++R.ω++f.cl.map (·.2)).Nodup){a b:Addr}(ha:a∈R.ω)(hb:b∈f.cl.map (·.2)):a≠b:=
 (z8.mp D).2.2 a (zj _ ha) b hb
theorem Fv{l:List Addr}(D:l.Nodup){i j:Nat}{a:Addr}(hi:l[i]? =some a)(hj:l[j]? =some a):i=j:=by
 refine zg (zu.mp hi) fun h1 e1=>?_
 refine zg (zu.mp hj) fun h2 e2=>?_
 exact(J4 D).mp (e1.trans e2.symm)
theorem Zm(D:(R.ρ++R.ω++f.cl.map (·.2)).Nodup):R.ω.Nodup:=(z8.mp (z8.mp D).1).2.1
theorem GB(D:(R.ρ++R.ω++f.cl.map (·.2)).Nodup):R.ρ.Nodup:=(z8.mp (z8.mp D).1).1
theorem fZ(D:(R.ρ++R.ω++f.cl.map (·.2)).Nodup):(f.cl.map (·.2)).Nodup:=(z8.mp D).2.1
theorem Av{l:List Addr}{i:Nat}{a:Addr}(h:l[i]? =some a):a∈l:=jh h
theorem lookup_mem{l:List (Str×Addr)}{n:Str}{a:Addr}(h:l.lookup n=some a):a∈l.map (·.2):=by
 induction l with
 |nil=>simp at h
 |cons p r ih=>
  rw[jg]at h
  split at h
  ·cases h;simp
  ·exact zC _ (ih h)
theorem FI(r:Rel c f R σ h m led){a:Addr}{o':Obj}(hc:a∉f.cl.map (·.2)){k:Nat}{n:Str}{v:LV}(hk:f.names[k]? =some n)(hv:Ax σ.loc k=some v):
  match f.cs.names.lookup n with
  |some .local=>∃rv,m n=some rv∧LR c R v rv
  |some _=>∃b o rv,f.cl.lookup n=some b∧(b,o)∈put a o' led∧o.data=.cell (some rv)∧LR c R v rv
  |none=>False:=by
 have:=r.slots k n v hk hv
 revert this
 induction f.cs.names.lookup n using zh with
 |none=>exact id
 |some kd=>cases kd <;>first
  |exact id
  |(rintro⟨b,o,rv,a1,a2,a3,a4⟩;exact⟨b,o,rv,a1,AK a2 (fun e=>hc (e▸lookup_mem a1)),a3,a4⟩)
theorem IO(r:Rel c f R σ h m led){a:Addr}{o':Obj}(hc:a∉f.cl.map (·.2)):∀n b,f.cl.lookup n=some b→∃o v,(b,o)∈put a o' led∧o.data=.cell v:=fun n b hb=>by
 refine A6 (r.clo n b hb) fun o v a1 a2=>?_
 exact⟨o,v,AK a1 (fun e=>hc (e▸lookup_mem hb)),a2⟩
theorem Rel.Ko(r:Rel c f R σ h m led){k:Nat}{a:Addr}{vs:List Value}{n:Nat}{xs:List Val}(hk:R.ω[k]? =some a)
  (F:Fr f.h₀ f.L h' m) (N:News f.h₀ f.L h' (put a (seqObj false vs n) led)) (hx:c.Vs R xs vs) (hl:xs.length≤Az):
  Rel c f R (σ.Ky k xs) h' m (put a (seqObj false vs n) led):=by
 have haω:=Av hk
 have hc:a∉f.cl.map (·.2):=fun hb=>Ma r.D1 haω hb rfl
 have mz:∀p∈R.zs++R.ex,p.1≠a:=r.D3 a (.inr (.inl haω))
 refine{F:=F,N:=N,nd:=by rw[B5];exact r.nd,slots:=fun j n v hj hv=>FI r hc hj hv,clo:=IO r hc,self:=fun x dx hs=>?_,self0:=r.self0,ml:=fun b hb=>by rw[B5];exact r.ml b hb,hlen:=r.hlen,cells:=fun j fs hj=>?_,oln:=?_,owns:=fun j ys hj=>?_,zs:=fun p hp=>AK (r.zs p hp) (mz p (zr _ hp)),ex:=fun p hp=>AK (r.ex p hp) (mz p (zj _ hp)),D1:=r.D1,D2:=r.D2,D3:=r.D3,D4:=r.D4,B:=r.B}
 ·obtain⟨a1,a2,es,n,a3,a4⟩:=r.self x dx hs
  exact⟨a1,a2,es,n,AK a3 (fun e=>(r.D2 x dx hs).1 (e▸haω)),a4⟩
 ·refine CS (r.cells j fs hj) fun b es n a1 a2 a3=>?_
  exact⟨b,es,n,a1,AK a2 (Gx r.D1 (Av a1) haω),a3⟩
 ·show R.ω.length=Ak.G1 (oset σ.own k xs)
  rw[r.oln,Cm,Cm,NU,jV]
 ·have hj':(σ.own.set k xs)[j]? =some ys:=by rw[←NU,←DB];exact hj
  by_cases e:k=j
  ·subst e
   have hlt:k < σ.own.length:=by
    have:=(zu.mp hj').1
    rwa[jV]at this
   rw[Jk hlt]at hj'
   cases hj'
   refine AR (r.owns k (σ.own[k]) (by rw[DB];simp[hlt])) fun b vs' n' a1 a2 a3 a4=>?_
   rw[hk]at a1;cases a1
   exact⟨a,vs,n,hk,B3 a2,hl,hx⟩
  ·rw[Js e]at hj'
   refine AR (r.owns j ys (by rw[DB];exact hj')) fun b vs' n' a1 a2 a3 a4=>?_
   refine⟨b,vs',n',a1,AK a2 (fun eq=>e ?_),a3,a4⟩
   subst eq
   exact Fv (Zm r.D1) hk a1
theorem Rel.UA(r:Rel c f R σ h m led){x dx:Addr}(hs:R.sd=some (x,dx)){es':List DictEntry}{n':Nat}{fs':List (Option LV)}
  (F:Fr f.h₀ f.L h' m) (N:News f.h₀ f.L h' (put dx (dictOf es' n') led)) (hf:Aj c R fs' es'):
  Rel c f R ⟨σ.loc,σ.own,fs',σ.heap⟩ h' m (put dx (dictOf es' n') led):=by
 refine Bi (r.D2 x dx hs) fun dω dc dρ=>?_
 have mz:∀p∈R.zs++R.ex,p.1≠dx:=r.D3 dx (.inr (.inr (.inr ⟨x,hs⟩)))
 obtain⟨s1,s2,es,n,s3,s4⟩:=r.self x dx hs
 refine{F:=F,N:=N,nd:=by rw[B5];exact r.nd,slots:=fun j n v hj hv=>FI r dc hj hv,clo:=IO r dc,self:=fun x' dx' hs'=>?_,self0:=fun e=>absurd (hs.symm.trans e) (by simp),ml:=fun b hb=>by rw[B5];exact r.ml b hb,hlen:=r.hlen,cells:=fun j fs hj=>?_,oln:=r.oln,owns:=fun j ys hj=>?_,zs:=fun p hp=>AK (r.zs p hp) (mz p (zr _ hp)),ex:=fun p hp=>AK (r.ex p hp) (mz p (zj _ hp)),D1:=r.D1,D2:=r.D2,D3:=r.D3,D4:=r.D4,B:=r.B}
 ·rw[hs]at hs';cases hs'
  exact⟨s1,s2,es',n',B3 s3,hf⟩
 ·refine CS (r.cells j fs hj) fun b es n a1 a2 a3=>?_
  exact⟨b,es,n,a1,AK a2 (fun e=>dρ j fs hj (e▸a1)),a3⟩
 ·refine AR (r.owns j ys hj) fun b vs' n' a1 a2 a3 a4=>?_
  exact⟨b,vs',n',a1,AK a2 (fun e=>dω (e▸Av a1)),a3,a4⟩
theorem Rel.ei(r:Rel c f R σ h m led){k:Nat}{n:Str}{v:LV}{rv:Value}(hk:f.names[k]? =some n)(hn:f.names.Nodup)(hs:n≠c.self)(hl:f.cs.names.lookup n=some .local)
  (hv:LR c R v rv) (F:Fr f.h₀ f.L h' (fun y=>if y=n then some rv else m y)) (N:News f.h₀ f.L h' led):
  Rel c f R (σ.DD k v) h' (fun y=>if y=n then some rv else m y) led:=by
 refine{r with F:=F,N:=N,slots:=fun j n' u hj hu=>?_,self:=fun x dx hsd=>?_,self0:=r.self0}
 ·rcases H7 hu with⟨e1,e2⟩ |⟨e1,e2⟩
  ·subst e1;subst e2
   rw[hk]at hj;cases hj
   rw[hl]
   exact⟨rv,by simp,hv⟩
  ·have:=r.slots j n' u hj e2
   have hne:n'≠n:=fun e=>e1 (by
    subst e
    refine zg (zu.mp hj) fun h1 q1=>?_
    refine zg (zu.mp hk) fun h2 q2=>?_
    exact(J4 hn).mp (q1.trans q2.symm))
   revert this
   induction f.cs.names.lookup n' using zh with
   |none=>exact id
   |some kd=>cases kd <;>first
    |(rintro⟨rv',a,b⟩;exact⟨rv',by simp[hne,a],b⟩)
    |exact id
 ·refine Ao (r.self x dx hsd) fun a1 rest=>?_
  exact⟨by simp[hs.symm,a1],rest⟩
theorem Rel.eh(r:Rel c f R σ h m led){k:Nat}{n:Str}{v:LV}{rv:Value}{a:Addr}{o':Obj}(hk:f.names[k]? =some n)(hn:f.names.Nodup)(hl:f.cs.names.lookup n=some .cell)
  (hcl:f.cl.lookup n=some a) (hinj:∀n',f.cl.lookup n'=some a→n'=n) (hv:LR c R v rv) (ho:o'.data=.cell (some rv)) (F:Fr f.h₀ f.L h' m) (N:News f.h₀ f.L h' (put a o' led)):
  Rel c f R (σ.DD k v) h' m (put a o' led):=by
 have hac:=lookup_mem hcl
 have mz:∀p∈R.zs++R.ex,p.1≠a:=r.D3 a (.inr (.inr (.inl hac)))
 refine A6 (r.clo n a hcl) fun o v₀ hmem _=>?_
 refine{F:=F,N:=N,nd:=by rw[B5];exact r.nd,slots:=fun j n' u hj hu=>?_,clo:=fun n' b hb=>?_,self:=fun x dx hs=>?_,self0:=r.self0,ml:=fun b hb=>by rw[B5];exact r.ml b hb,hlen:=r.hlen,cells:=fun j fs hj=>?_,oln:=r.oln,owns:=fun j ys hj=>?_,zs:=fun p hp=>AK (r.zs p hp) (mz p (zr _ hp)),ex:=fun p hp=>AK (r.ex p hp) (mz p (zj _ hp)),D1:=r.D1,D2:=r.D2,D3:=r.D3,D4:=r.D4,B:=r.B}
 ·rcases H7 hu with⟨e1,e2⟩ |⟨e1,e2⟩
  ·subst e1;subst e2
   rw[hk]at hj;cases hj
   rw[hl]
   exact⟨a,o',rv,hcl,B3 hmem,ho,hv⟩
  ·have:=r.slots j n' u hj e2
   have hne:n'≠n:=fun e=>e1 (by
    subst e
    refine zg (zu.mp hj) fun h1 q1=>?_
    refine zg (zu.mp hk) fun h2 q2=>?_
    exact(J4 hn).mp (q1.trans q2.symm))
   revert this
   induction f.cs.names.lookup n' using zh with
   |none=>exact id
   |some kd=>cases kd <;>first
    |exact id
    |(rintro⟨b,ob,rv',a1,a2,a3,a4⟩;exact⟨b,ob,rv',a1,AK a2 (fun e=>hne (hinj n' (e▸a1))),a3,a4⟩)
 ·refine A6 (r.clo n' b hb) fun ob vb a1 a2=>?_
  by_cases e:b=a
  ·subst e;exact⟨o',some rv,B3 a1,ho⟩
  ·exact⟨ob,vb,AK a1 e,a2⟩
 ·obtain⟨a1,a2,es,n,a3,a4⟩:=r.self x dx hs
  exact⟨a1,a2,es,n,AK a3 (fun e=>(r.D2 x dx hs).2.1 (e▸hac)),a4⟩
 ·refine CS (r.cells j fs hj) fun b es n a1 a2 a3=>?_
  exact⟨b,es,n,a1,AK a2 (GC r.D1 (Av a1) hac),a3⟩
 ·refine AR (r.owns j ys hj) fun b vs' n' a1 a2 a3 a4=>?_
  exact⟨b,vs',n',a1,AK a2 (Ma r.D1 (Av a1) hac),a3,a4⟩
end
end
section
structure Nb(c:Cx)(f:Fx)(A:Around)(d:Nat):Prop where
 kind:f.cs.kind=.function
 hh:A.handled=none
 depth:A.depth+8*d+8 < recursionLimit
 units:A.units+24*d+80 < cLine
 fr:∃outer A₀ base,A.frames=some (f.env::outer)∧Below A₀ base outer f.h₀
 X:c.K.In f.h₀
 T:∃p loose mean mg mb,Top p loose mean mg mb f.h₀
 gd:∃g,A.guards=some g
structure Hs(c:Cx)(f:Fx):Prop where
 nd:f.names.Nodup
 self:c.self∉f.names
 kinds:∀n∈f.names,(f.cs.names.lookup n=some .local)∨(f.cs.names.lookup n=some .cell∧∃a,f.cl.lookup n=some a)∨(f.cs.names.lookup n=some .free∧∃a,f.cl.lookup n=some a)
 inj:∀n n' a,f.cl.lookup n=some a→f.cl.lookup n'=some a→n'=n
 dbg:∀n∈f.names,(n==("__debug__":Str))=false∧(n==("__classdict__":Str))=false
section
variable {c:Cx}{f:Fx}{A:Around}{d:Nat}{R:Rec}{σ:St}{s:Shared}{E:Value→Shared→Prop}{m:Str→Option Value}{led:List (Addr×Obj)}
theorem AB{s:Shared}{h':Heap}:Ar s {s with heap:=h'}:=⟨rfl,rfl,rfl,zw _⟩
theorem An{s:Shared}{h':Heap}{t:Nat}(h:s.toks≤t):Ar s {s with heap:=h',toks:=t}:=⟨rfl,rfl,rfl,h⟩
theorem Ch(G:Nb c f A d)(NM:Hs c f)(r:Rel c f R σ s.heap m led){k:Nat}{n:Str}{v:LV}{pos:Pos}(hk:f.names[k]? =some n)(hv:Ax σ.loc k=some v)
  {Q:Value→Shared→Prop} (h:∀rv,LR c R v rv→Q rv s):wpAny (model c.prog c.w) A (eval (.Name n pos) f.env) Q E s:=by
 have hn:=jh hk
 have hr:=r.slots k n v hk hv
 refine Ao (NM.dbg n hn) fun db dc=>?_
 rcases NM.kinds n hn with e |⟨e,_⟩ |⟨e,_⟩
 ·rw[e]at hr
  refine Ab hr fun rv a b=>?_
  exact nameX_L r.F a (h rv b) G.kind e db
 ·rw[e]at hr
  refine AR hr fun a o rv a1 a2 a3 a4=>?_
  exact nameX_C r.N a1 a2 a3 (h rv a4) G.kind e db
 ·rw[e]at hr
  refine AR hr fun a o rv a1 a2 a3 a4=>?_
  exact nameX_F r.N a1 a2 a3 (h rv a4) G.kind e db dc
theorem GX(G:Nb c f A d)(NM:Hs c f)(r:Rel c f R σ s.heap m led){k:Nat}{n:Str}{v:LV}(hk:f.names[k]? =some n)(hv:Ax σ.loc k=some v)
  {Q:Value→Shared→Prop} (h:∀rv,LR c R v rv→Q rv s):wpAny (model c.prog c.w) A (loadName f.env n) Q E s:=by
 have hn:=jh hk
 have hr:=r.slots k n v hk hv
 refine Ao (NM.dbg n hn) fun db dc=>?_
 rcases NM.kinds n hn with e |⟨e,_⟩ |⟨e,_⟩
 ·rw[e]at hr
  refine Ab hr fun rv a b=>?_
  exact wpAny_loadName_local G.kind e r.F.ns a (h rv b)
 ·rw[e]at hr
  refine AR hr fun a o rv a1 a2 a3 a4=>?_
  exact wpAny_loadName_cell G.kind e a1 ⟨o,r.N.get a2,a3⟩ (h rv a4)
 ·rw[e]at hr
  refine AR hr fun a o rv a1 a2 a3 a4=>?_
  exact wpAny_loadName_free G.kind e a1 ⟨o,r.N.get a2,a3⟩ (h rv a4) dc
theorem BS(G:Nb c f A d)(NM:Hs c f)(r:Rel c f R σ s.heap m led){k:Nat}{n:Str}{v:LV}{rv:Value}(hk:f.names[k]? =some n)(hfree:f.cs.names.lookup n≠some .free)
  (hv:LR c R v rv) {Q:Unit→Shared→Prop} (h:∀s',Ar s s'→Al c f R (σ.DD k v) s'.heap→Q () s'):wpAny (model c.prog c.w) A (storeName f.env n rv) Q E s:=by
 have hn:=jh hk
 rcases NM.kinds n hn with e |⟨e,a,ha⟩ |⟨e,_⟩
 ·exact storeX_L r.F r.N (fun h' F N=>h _ (An (by first |exact zw _ |exact zV _)) ⟨_,_,r.ei hk NM.nd (fun e'=>NM.self (e'▸hn)) e hv F N⟩) G.kind e
 ·refine A6 (r.clo n a ha) fun o v₀ hm ho=>?_
  exact storeX_C r.F r.N ha (L6 hm r.nd) ho (fun h' o' F N ho'=>h _ (An (by first |exact zw _ |exact zV _)) ⟨_,_,r.eh hk NM.nd e ha (fun n' hn'=>NM.inj n n' a ha hn') hv ho' F N⟩) G.kind e
 ·exact absurd e hfree
inductive VH(c:Cx)(R:Rec)(h:Heap):Val→Value→Prop
 |of {x:Val} {rv:Value} (y:c.V R x rv):VH c R h x rv
 |own {xs:List Val} {a:Addr} {vs:List Value} {n:Nat} (ho:h.get? a=some (seqObj false vs n)) (hl:xs.length≤Az) (hs:c.Vs R xs vs):VH c R h (.seq false xs) (.ref a)
noncomputable def DL(h:Heap)(a:Addr)(tup:Bool)(vs:List Value)(n:Nat):Prop:=∃o,h.get? a=some o∧o.cls=.type (kindS tup)∧o.data=.seq vs.toArray n
theorem DL.of{h:Heap}{a:Addr}{tup:Bool}{vs:List Value}{n:Nat}(e:h.get? a=some (seqObj tup vs n)):DL h a tup vs n:=⟨_,e,rfl,rfl⟩
theorem Rel.Z5(r:Rel c f R σ h m led){a:Addr}{tup:Bool}{vs:List Value}{n:Nat}(z:Iy (c.Z R) a tup vs n):DL h a tup vs n:=let⟨o,x,y⟩:=z;⟨o,r.get x,y⟩
noncomputable def ag:Val→Bool
 | .seq _ _=>true
 |_=>false
theorem VH.v{h:Heap}{x:Val}{rv:Value}(y:VH c R h x rv)(hs:ag x=false):c.V R x rv:=
 VH.casesOn (motive:=fun x rv _=>ag x=false→c.V R x rv) y (fun y _=>y) (fun _ _ _ h=>Bool.noConfusion h) hs
noncomputable def k0(c:Cx)(R:Rec)(h:Heap):Val→Value→Prop
 | .seq tup xs,rv=>∃a vs n,rv=.ref a∧DL h a tup vs n∧xs.length≤Az∧c.Vs R xs vs
 |_,_=>True
theorem VH.seq(r:Rel c f R σ s.heap m led){tup:Bool}{xs:List Val}{rv:Value}(x:VH c R s.heap (.seq tup xs) rv):
  ∃a vs n,rv=.ref a∧DL s.heap a tup vs n∧xs.length≤Az∧c.Vs R xs vs:=
 VH.casesOn (motive:=fun x rv _=>k0 c R s.heap x rv) x (fun{x _} y=>by
  induction x using Val.casesOn with
  |seq tup xs=>exact AR y.inv fun a vs n e h hl hs=>⟨a,vs,n,e,r.Z5 h,hl,hs⟩
  |_=>trivial) fun ho hl hs=>⟨_,_,_,rfl,.of ho,hl,hs⟩
theorem VH.iI{h:Heap}{t:Txt}{rv:Value}(x:VH c R h (.str t) rv):∃tk,t.length≤Az∧rv=.str ⟨t.toArray⟩ tk:=(x.v rfl).inv
set_option tactic.hygienic true in
theorem B2(r:Rel c f R σ s.heap m led){l:LV}{x:Val}{rv:Value}(hl:look σ.own l=some x)(y:LR c R l rv):VH c R s.heap x rv:=by
 induction y using LR.casesOn with
 |v y=>cases hl;exact .of y
 |loc e=>
  rename_i k a
  simp only[look]at hl
  induction ho:CW σ.own k using zh with
  |none=>rw[ho]at hl;cases hl
  |some xs=>
   rw[ho]at hl;cases hl
   refine AR (r.owns k xs ho) fun b vs n a1 a2 a3 a4=>?_
   rw[e]at a1;cases a1
   exact .own (r.BN a2) a3 a4
 |app _ _=>cases hl
 |fn _=>cases hl
theorem Bu{l:LV}{x:Val}{rv:Value}(hl:val? l=some x)(y:LR c R l rv):c.V R x rv:=by
 induction y using LR.casesOn with
 |v y=>cases hl;exact y
 |_=>cases hl
theorem BO:(Az:Nat)=16777216:=rfl
theorem A8:Az=sizeLine:=rfl
theorem AF{h:Heap}{a:Addr}{vs:List Value}{n:Nat}(e:DL h a false vs n):h.IsList a vs.toArray:=let⟨o,x,y,z⟩:=e;⟨o,x,y,n,z⟩
theorem Dk{h:Heap}{a:Addr}{vs:List Value}{n:Nat}(e:DL h a true vs n):IsTup h a vs.toArray:=let⟨o,x,y,z⟩:=e;⟨o,x,y,n,z⟩
noncomputable def AL(c:Cx)(f:Fx)(A:Around)(R:Rec)(σ:St)(s:Shared)(t:Sem Value)(v:Val):Prop:=
 ∀(E:Value→Shared→Prop) (Q:Value→Shared→Prop),(∀R' rv s',R.le R'→Ar s s'→Al c f R' σ s'.heap→c.V R' v rv→Q rv s')→wpAny (model c.prog c.w) A t Q E s
theorem AL.plain{t:Sem Value}{v:Val}(r:Al c f R σ s.heap)(h:∀(E:Value→Shared→Prop) (Q:Value→Shared→Prop),(∀rv tk,c.V R v rv→Q rv {s with toks:=tk})→wpAny (model c.prog c.w) A t Q E s):AL c f A R σ s t v:=
 fun E Q hq=>zZ (wpAny_toks (h E (fun rv s'=>∃tk,s'={s with toks:=tk}∧c.V R v rv) fun rv tk hv=>⟨tk,rfl,hv⟩)) (fun rv s' x=>by
  obtain⟨⟨tk,rfl,hv⟩,ht⟩:=x
  exact hq R rv _ (.refl R) (An ht) r hv) fun _ _ x=>x.1
theorem AL.made{t:Sem Value}{v:Val}(r:Al c f R σ s.heap)
  (h:∀(E:Value→Shared→Prop) (Q:Value→Shared→Prop) m led,Rel c f R σ s.heap m led→(∀a o rv h' tk,Fr f.h₀ f.L h' m→News f.h₀ f.L h' ((a,o)::led)→(∀p∈led,p.1 < a)→
   (∀R',R.le R'→(a,o)∈R'.zs→c.V R' v rv)→Q rv {s with heap:=h',toks:=tk})→wpAny (model c.prog c.w) A t Q E s):AL c f A R σ s t v:=by
 intro E Q hq
 refine Aq r ?_;clear r;intro m led r
 refine zZ (wpAny_toks (h E (fun rv s'=>∃R' h' tk,s'={s with heap:=h',toks:=tk}∧R.le R'∧Al c f R' σ h'∧c.V R' v rv) m led r fun a o rv h' tk F N hf hv=>?_)) (fun rv s' x=>?_) fun _ _ x=>x.1
 ·refine Gw (r.frozen F N hf) fun R' le r' hz _ _=>?_
  exact⟨R',h',tk,rfl,le,⟨_,_,r'⟩,hv R' le hz⟩
 ·obtain⟨⟨R',h',tk,rfl,le,r',hv⟩,ht⟩:=x
  exact hq R' rv _ le (An ht) r' hv
end
end
section
noncomputable def Ag(x:PySem.Expr):Bool:= !Nat.beq x.ctorIdx 22
noncomputable def CZ(o:PySem.Expr):Prop:=∀(attr:Str) (env:Env) (t:Sem Value),attributeBase o attr env t=t
theorem Aa{x:PySem.Expr}{rest:List PySem.Expr}{env:Env}(h:Ag x=true):starEach (x::rest) env=(false,eval x env)::starEach rest env:=by
 cases x <;>first |rfl |(cases h)
theorem Aw{xs:List PySem.Expr}{env:Env}{pos:Pos}(h:xs.all Ag=true):(backTo pos (starEach xs env)).any (·.1)=false:=by
 induction xs with
 |nil=>rfl
 |cons x r ih=>
  rw[jP,jp]at h
  rw[Aa h.1]
  show(false || (backTo pos (starEach r env)).any (·.1))=false
  rw[ih h.2];rfl
section
variable {c:Cx}{f:Fx}{A:Around}{d:Nat}{R R':Rec}{σ σ':St}{s s':Shared}{E:Value→Shared→Prop}{m:Str→Option Value}{led:List (Addr×Obj)}{C:Cfg}{X:A7→St→Prop}
noncomputable abbrev HN:=A7→St→Rec→Value→Shared→Prop
noncomputable def PJ(R:Rec)(s:Shared)(X:A7→St→Prop)(EP:HN)(E:Value→Shared→Prop):Prop:=
 ∀x σ' R' ev s',R.le R'→Ar s s'→X x σ'→EP x σ' R' ev s'→E ev s'
theorem PJ.up{R R':Rec}{s s':Shared}{X:A7→St→Prop}{EP:HN}{E:Value→Shared→Prop}(h:PJ R s X EP E)(le:R.le R')(sm:Ar s s'):PJ R' s' X EP E:=
 fun x σ' R'' ev s'' l m hx he=>h x σ' R'' ev s'' (le.trans l) (sm.trans m) hx he
noncomputable def SV(c:Cx)(f:Fx)(A:Around)(X:A7→St→Prop)(EP:HN)(R:Rec)(σ:St)(s:Shared)(x:PySem.Expr)(K:LV→St→Prop):Prop:=
 ∀(E Q:Value→Shared→Prop),PJ R s X EP E→(∀l σ' R' rv s',R.le R'→Ar s s'→K l σ'→Al c f R' σ' s'.heap→LR c R' l rv→Q rv s')→wpAny (model c.prog c.w) A (eval x f.env) Q E s
noncomputable def Zs(c:Cx)(f:Fx)(A:Around)(X:A7→St→Prop)(EP:HN)(R:Rec)(σ:St)(s:Shared)(x:PySem.Expr)(K:Bool→St→Prop):Prop:=
 ∀(E:Value→Shared→Prop) (Q:Bool→Shared→Prop),PJ R s X EP E→(∀b σ' R' s',R.le R'→Ar s s'→K b σ'→Al c f R' σ' s'.heap→Q b s')→wpAny (model c.prog c.w) A (isTrue x f.env (eval x f.env)) Q E s
noncomputable def Hp(c:Cx)(f:Fx)(A:Around)(X:A7→St→Prop)(EP:HN)(R:Rec)(σ:St)(s:Shared)(pos:Pos)(xs:List PySem.Expr)(K:List Val→St→Prop):Prop:=
 ∀(E:Value→Shared→Prop) (Q:List Value→Shared→Prop),PJ R s X EP E→(∀vs σ' R' rvs s',R.le R'→Ar s s'→K vs σ'→Al c f R' σ' s'.heap→c.Vs R' vs rvs→vs.length=xs.length→Q rvs s')→wpAny (model c.prog c.w) A (spliced (backTo pos (starEach xs f.env))) Q E s
theorem AL.to{t:Sem Value}{v:Val}{K:LV→St→Prop}{Q:Value→Shared→Prop}(h:AL c f A R' σ' s' t v)(hK:K (.v v) σ')(le:R.le R')(sm:Ar s s')
  (hq:∀l σ' R' rv s',R.le R'→Ar s s'→K l σ'→Al c f R' σ' s'.heap→LR c R' l rv→Q rv s'):wpAny (model c.prog c.w) A t Q E s':=
 h E Q fun R'' rv s'' le' sm' r hv=>hq (.v v) σ' R'' rv s'' (le.trans le') (sm.trans sm') hK r (.v hv)
theorem Hp.nil{EP:HN}{pos:Pos}{K:List Val→St→Prop}(r:Al c f R σ s.heap)(h:K [] σ):Hp c f A X EP R σ s pos [] K:=
 fun _ _ _ hq=>jT (hq [] σ R [] s (.refl R) (.refl s) h r .nil rfl)
theorem Hp.cons{EP:HN}{pos:Pos}{x:PySem.Expr}{xs:List PySem.Expr}{K:List Val→St→Prop}(hx:Ag x=true)
  (h:SV c f A X EP R σ s x (fun l σ₁=>B9 (val? l) fun v=>∀R₁ s₁,R.le R₁→Ar s s₁→Al c f R₁ σ₁ s₁.heap→Hp c f A X EP R₁ σ₁ s₁ pos xs (fun vs σ₂=>K (v::vs) σ₂))):Hp c f A X EP R σ s pos (x::xs) K:=by
 intro E Q xo hq
 refine je (h E _ xo fun l σ₁ R₁ rv s₁ le sm hk r hl=>?_) (Aa hx)
 refine Ab (Ae hk) fun v hv hk=>?_
 refine hk R₁ s₁ le sm r E _ (xo.up le sm) fun vs σ₂ R₂ rvs s₂ le₂ sm₂ hk₂ r₂ hvs hlen=>?_
 exact hq (v::vs) σ₂ R₂ (rv::rvs) s₂ (le.trans le₂) (sm.trans sm₂) hk₂ r₂ (.cons (V.up le₂ (Bu hv hl)) hvs) (zB (· +1) hlen)
structure kZ(c:Cx)(f:Fx)(n:Str)(id:String):Prop where
 gl:nsIn c.K mainGlobals n=some none
 bi:bootBuiltins n=some (.builtin id)
 nn:n≠"__name__"
 k:f.cs.names.lookup n=some .globalImplicit
 db:(n==("__debug__":Str))=false
theorem Au{n:Str}{npos:Pos}{args:List PySem.Expr}{kws:List Keyword}{pos:Pos}{env:Env}:eval (.Call (.Name n npos) args kws pos) env=(do
  callWith pos (←eval (.Name n npos) env) [] (backTo pos (starEach args env)) (backToKw pos (keywordEach kws env))):=rfl
theorem Bq{o:PySem.Expr}{name:Str}{apos pos:Pos}{xs:List PySem.Expr}{Q:Value→Shared→Prop}(hb:CZ o)(hp:xs.all Ag=true)(hl:xs.length < 25)(hl1:(apos.endLine==pos.line)=true)
  (h:wpAny (model c.prog c.w) A (eval o f.env) (fun ov s₁=>∀pl,wpAny (model c.prog c.w) A (getMethod ov name pl) (fun fx s₂=>wpAny (model c.prog c.w) A (callWith pos fx.1 fx.2 (backTo pos (starEach xs f.env)) []) Q E s₂) E s₁) E s):
  wpAny (model c.prog c.w) A (eval (.Call (.Attribute o name apos) xs [] pos) f.env) Q E s:=by
 rw[arm_eval_Call,hb]
 refine zn (zZ h (fun ov s₁ h₁=>zn (JQ ?_)) fun _ _ x=>x)
 unfold methodCall
 have hall:∀xs:List PySem.Expr,xs.all Ag=true→(backTo pos (starEach xs f.env)).all (fun p=> !p.1)=true:=by
  intro xs hp
  induction xs with
  |nil=>rfl
  |cons x r ih=>
   rw[jP,jp]at hp
   rw[Aa hp.1]
   show(true && (backTo pos (starEach r f.env)).all (fun p=> !p.1))=true
   rw[ih hp.2];rfl
 have hform:methodCallForm (xs.length+([]:List Keyword).length) (backTo pos (starEach xs f.env)) (backToKw pos (keywordEach [] f.env))=true:=by
  unfold methodCallForm
  rw[hall xs hp]
  exact js (show xs.length+0 < 30 by lia)
 rw[hform]
 refine zn (jj ?_)
 unfold calleeOf
 rw[zX rfl]
 refine zZ (h₁ _) (fun fx s₂ h₂=>?_) fun _ _ x=>x
 obtain⟨g,first⟩:=fx
 unfold methodCallPos
 rw[hl1]
 exact zn (zG h₂)
end
end
end Ak
end
namespace Ak
section
open PySem PySem.StrLaws PySem.Builtin PySem.Builtin.Str
theorem WY{p k n}:Fm p k (n+1)=cond (p k) (.ofNat k) (Fm p (k+1) n):=rfl
theorem ao{p k n r}:C5 p k (n+1) r=C5 p (k+1) n (cond (p k) (.ofNat k) r):=rfl
theorem K5{b:Bool}{p:Prop}[Decidable p](h:b=true↔p):b=decide p:=by
 induction b using za with
 |true=>exact(js (h.mp rfl)).symm
 |false=>exact(zJ fun hp=>Bool.noConfusion (h.mpr hp)).symm
theorem Xy(m n:Nat):Nat.beq m n=decide (m=n):=K5 ⟨zD,fun e=>e▸Jd m⟩
theorem aA(m n:Nat):Nat.ble m n=decide (m≤n):=K5 ⟨zp,zt⟩
theorem T0(m n:Nat):Nat.blt m n=decide (m < n):=aA _ _
theorem L1{t x:Txt}{i:Nat}:subAt ⟨t.toArray⟩ ⟨x.toArray⟩ i=true↔(t.drop i).take x.length=x:=by
 rw[subAt_eq];exact beq_iff_eq
theorem EO(t x:Txt)(b i:Nat):(i+(⟨x.toArray⟩:Str).length≤b∧subAt ⟨t.toArray⟩ ⟨x.toArray⟩ i=true)↔EN x t b i=true:=by
 refine⟨fun h=>?_,fun h=>?_⟩
 ·show cond (Nat.ble (i+x.length) b) _ false=true
  rw[zt (show i+x.length≤b from h.1)];exact Fd.mpr (L1.mp h.2)
 ·have q:=condT h
  exact⟨zp q.1,L1.mpr (Fd.mp q.2)⟩
section
variable {s u:Str}{hi lim k:Nat}{l:List Nat}{st:Array Nat×Nat}{so:Option Nat}
theorem Kj(h:((st.fst.size < lim∧st.snd≤k)∧k+u.length≤hi)∧subAt s u k=true):forIn (k::l) st (occBody s u hi lim)=forIn l (st.fst.push k,k+u.length) (occBody s u hi lim):=by
 rw[Jl]
 show(if _ then _ else _:Id _) >>=_=_
 rw[zX h];rfl
theorem ME(h:¬(((st.fst.size < lim∧st.snd≤k)∧k+u.length≤hi)∧subAt s u k=true)):forIn (k::l) st (occBody s u hi lim)=forIn l st (occBody s u hi lim):=by
 rw[Jl]
 show(if _ then _ else _:Id _) >>=_=_
 rw[zP h];rfl
theorem QV(h:k+u.length≤hi∧subAt s u k=true):forIn (k::l) so (lastBody s u hi)=forIn l (some k) (lastBody s u hi):=by
 rw[Jl]
 show(if _ then _ else _:Id _) >>=_=_
 rw[zX h];rfl
theorem TI(h:¬(k+u.length≤hi∧subAt s u k=true)):forIn (k::l) so (lastBody s u hi)=forIn l so (lastBody s u hi):=by
 rw[Jl]
 show(if _ then _ else _:Id _) >>=_=_
 rw[zP h];rfl
theorem occ_head:∀{st:Array Nat×Nat},st.fst.toList.head? =some k→(forIn l st (occBody s u hi lim)).run.fst.toList.head? =some k:=by
 induction l with
 |nil=>exact fun h=>h
 |cons a l ih=>
  intro st h
  by_cases hc:((st.fst.size < lim∧st.snd≤a)∧a+u.length≤hi)∧subAt s u a=true
  ·rw[Kj hc]
   exact ih (by rw[Array.toList_push,List.head?_append,h];rfl)
  ·rw[ME hc];exact ih h
end
theorem QE{k:Nat}:∀{l:List Nat},l.head? =some k→(match l with |i::_=>(i:Int) |[]=> -1)=Int.ofNat k
 |[],h=>nomatch h
 |_::_,h=>zB Int.ofNat (ze h)
theorem Nn{t x:Txt}{b k:Nat}(h:¬(k+(⟨x.toArray⟩:Str).length≤b∧subAt ⟨t.toArray⟩ ⟨x.toArray⟩ k=true)):EN x t b k=false:=
 Bool.eq_false_iff.mpr fun q=>h ((EO t x b k).mpr q)
theorem occ_first(t x:Txt)(b:Nat)(n:Nat):∀(k free:Nat),free≤k→
  (match(forIn (List.range' k n) ((#[]:Array Nat),free) (occBody ⟨t.toArray⟩ ⟨x.toArray⟩ b 1)).run.fst.toList with |i::_=>(i:Int) |[]=> -1)=Fm (EN x t b) k n:=by
 induction n with
 |zero=>exact fun _ _ _=>rfl
 |succ n ih=>
  intro k free hf
  rw[List.range'_succ,WY]
  by_cases hc:k+(⟨x.toArray⟩:Str).length≤b∧subAt ⟨t.toArray⟩ ⟨x.toArray⟩ k=true
  ·rw[Kj ⟨⟨⟨Nat.one_pos,hf⟩,hc.1⟩,hc.2⟩,(EO t x b k).mp hc]
   refine QE (occ_head ?_)
   rfl
  ·rw[ME fun h=>hc ⟨h.1.2,h.2⟩,Nn hc]
   exact ih (k+1) free (jx hf)
theorem Ia(t x:Txt)(a b:Nat):(match occurrences ⟨t.toArray⟩ ⟨x.toArray⟩ a b 1 with |i::_=>(i:Int) |[]=> -1)=Di x t a b:=by
 rw[occ_eq]
 exact occ_first t x b (b+1 - a) a a (zw _)
theorem OT(t x:Txt)(b:Nat)(n:Nat):∀(k:Nat) (st:Option Nat) (r:Int),r=(match st with |some i=>(i:Int) |none=> -1)→
  (match(forIn (List.range' k n) st (lastBody ⟨t.toArray⟩ ⟨x.toArray⟩ b)).run with |some i=>(i:Int) |none=> -1)=C5 (EN x t b) k n r:=by
 induction n with
 |zero=>exact fun _ _ _ h=>h.symm
 |succ n ih=>
  intro k st r h
  rw[List.range'_succ,ao]
  by_cases hc:k+(⟨x.toArray⟩:Str).length≤b∧subAt ⟨t.toArray⟩ ⟨x.toArray⟩ k=true
  ·rw[QV hc,(EO t x b k).mp hc]
   exact ih (k+1) (some k) (Int.ofNat k) rfl
  ·rw[TI hc,Nn hc]
   exact ih (k+1) st r h
theorem Ls(t x:Txt)(a b:Nat):(match lastOccurrence ⟨t.toArray⟩ ⟨x.toArray⟩ a b with |some i=>(i:Int) |none=> -1)=Ck x t a b:=by
 rw[last_eq]
 exact OT t x b (b+1 - a) a none (-1) rfl
theorem LL{a b:Nat}:sliceRange (a:Int) (b:Int) 1=(List.range (b - a)).map (fun k=>a+k):=by
 have h:(if(a:Int) < b then((b:Int) - a+1 - 1) / 1 else 0).toNat=b - a:=by
  rw[Int.ediv_one]
  by_cases h:(a:Int) < b
  ·rw[zX h];lia
  ·rw[zP h];lia
 show(List.range (if(1:Int) >0 then(if(a:Int) < (b:Int)then((b:Int) - a+1 - 1) / 1 else 0)else _).toNat).map _=_
 rw[zX (by decide),h]
 exact List.map_congr_left fun k _=>zB (fun z:Int=>((a:Int)+z).toNat) (Int.one_mul k)
theorem G8{α:Type}(t:List α)(arr:Array α)(ha:arr=t.toArray){a b:Nat}(hb:b≤t.length):(sliceRange (a:Int) (b:Int) 1).filterMap (arr[·]?)=sliceOf t a b:=by
 subst ha
 rw[LL,show(fun x:Nat=>t.toArray[x]?)=(fun x=>t[x]?)from funext fun x=>ji]
 by_cases hab:a≤b
 ·exact(picks t (b - a) a (zl (Jc (jw hab)) hb)).trans JS.symm
 ·rw[Nat.sub_eq_zero_of_le (Ju hab)]
  exact(jq (zl (List.length_take_le _ _) (Ju hab))).symm
end
end Ak
section
open PySem PySem.W PySem.Calls PyProof.Rows
namespace Ak
section
theorem KH(x:Txt):∀y:Txt,Bt x y=decide (x=y):=by
 induction x with
 |nil=>exact fun y=>by induction y using zi <;>rfl
 |cons a x ih=>
  intro y
  induction y using zi with
  |nil=>rfl
  |cons b y=>
   show cond (Nat.beq a b) (Bt x y) false=_
   rw[ih,Xy]
   by_cases h:a=b
   ·rw[js h]
    exact decide_eq_decide.mpr ⟨fun e=>h▸e▸rfl,fun e=>(z9 e).2⟩
   ·rw[zJ h]
    exact(zJ fun e=>h (z9 e).1).symm
theorem GN(a b:Int):IT a b=decide (a=b):=by
 refine K5 ?_
 induction a using zW with
 |ofNat x=>induction b using zW with
  |ofNat y=>exact⟨fun h=>zB Int.ofNat (zD h),fun h=>Int.ofNat.inj h▸Jd x⟩
  |negSucc y=>exact⟨fun h=>(nomatch h),fun h=>(nomatch h)⟩
 |negSucc x=>induction b using zW with
  |ofNat y=>exact⟨fun h=>(nomatch h),fun h=>(nomatch h)⟩
  |negSucc y=>exact⟨fun h=>zB Int.negSucc (zD h),fun h=>Int.negSucc.inj h▸Jd x⟩
theorem I9(a b:Int):ltI a b=decide (a < b):=by
 refine K5 ?_
 induction a using zW with
 |ofNat x=>induction b using zW with
  |ofNat y=>exact⟨fun h=>Jv.mpr (zp h),fun h=>zt (Jv.mp h)⟩
  |negSucc y=>exact⟨fun h=>(nomatch h),fun h=>absurd (Int.lt_trans h (Jf y)) (JT.mpr (jr x))⟩
 |negSucc x=>induction b using zW with
  |ofNat y=>exact⟨fun _=>Int.lt_of_lt_of_le (Jf x) (jr y),fun _=>rfl⟩
  |negSucc y=>
   rw[qd,qd]
   exact⟨fun h=>Int.neg_lt_neg (Int.add_lt_add_right (Jv.mpr (zp h)) 1),fun h=>zt (Jv.mp (Int.lt_of_add_lt_add_right (Int.lt_of_neg_lt_neg h)))⟩
theorem CP(x y:Txt):((⟨x.toArray⟩:Str)==⟨y.toArray⟩)=Bt x y:=by
 rw[KH]
 by_cases h:x=y
 ·subst h;simp
 ·have:¬((⟨x.toArray⟩:Str)=⟨y.toArray⟩):=fun e=>h (by simpa using e)
  simp[h]
section
variable {c:Cx}{f:Fx}{A:Around}{d:Nat}{R R':Rec}{σ σ':St}{s s':Shared}{E:Value→Shared→Prop}{m:Str→Option Value}{led:List (Addr×Obj)}{rx:Rx}
theorem Bh(x:Txt):(⟨x.toArray⟩:Str).length=x.length:=by simp[Str.length]
theorem d0(r:Al c f R σ s.heap){x v:Val}{rv:Value}(hx:VH c R s.heap x rv)(h:Bw rx .len x=some v):AL c f A R σ s (call (.builtin "len") [rv]) v:=by
 refine Aq r fun m led r0=>?_
 induction x using Val.casesOn with
 |str t=>
  cases h
  cases hx with
  |of y=>
   cases y with
   |str _ tk hl=>
    refine AL.plain ⟨m,led,r0⟩ fun E Q hq=>?_
    refine len_str (by rw[Bh];have:=BO;lia) ?_
    rw[Bh]
    exact hq _ _ (.int _ _)
 |seq tup xs=>
  cases h
  refine AR (hx.seq r0) fun a vs n hq3 hg hl hs=>?_;subst hq3
  refine AL.plain ⟨m,led,r0⟩ fun E Q hq=>?_
  have hvl:=hs.length
  have hb:((vs.toArray.size:Nat):Int) < 2 ^ 63:=by rw[zY,hvl];have:=BO;lia
  have hq':=hq (.int (.ofNat xs.length) (s.toks+1)) (s.toks+1+1) (.int _ _)
  induction tup using za with
  |true=>refine len_tuple (Dk hg) hb ?_;rw[zY,hvl];exact hq'
  |false=>refine len_list (AF hg) hb ?_;rw[zY,hvl];exact hq'
 |_=>cases h
theorem d6(r:Al c f R σ s.heap){x v:Val}{rv:Value}(hx:VH c R s.heap x rv)(h:Bw rx .neg x=some v):AL c f A R σ s (unaryOp .USub rv) v:=by
 induction x using Val.casesOn with
 |int i=>
  cases h
  cases hx with
  |of y=>cases y with |int _ tk=>exact AL.plain r fun E Q hq=>P.neg_int (hq _ _ (.int _ _))
 |_=>cases h
theorem Yb(r:Al c f R σ s.heap){a b:Int}{t u:Tok}:AL c f A R σ s (binaryOp .Add (.int a t) (.int b u)) (.int (a+b)):=AL.plain r fun _ _ hq=>P.add_int (hq _ _ (.int _ _))
theorem Yp(r:Al c f R σ s.heap){a b:Int}{t u:Tok}:AL c f A R σ s (binaryOp .Sub (.int a t) (.int b u)) (.int (a - b)):=AL.plain r fun _ _ hq=>P.sub_int (hq _ _ (.int _ _))
theorem Yd(r:Al c f R σ s.heap){a b:Txt}{t u:Tok}(h:a.length+b.length≤Az):AL c f A R σ s (binaryOp .Add (.str ⟨a.toArray⟩ t) (.str ⟨b.toArray⟩ u)) (.str (a++b)):=by
 refine AL.plain r fun E Q hq=>add_str (fun t' tk=>?_) (by rw[Bh,Bh];exact h)
 have:=hq (.str ⟨(a++b).toArray⟩ t') tk (.str _ _ (by rw[zd];exact h))
 have e:((⟨a.toArray⟩:Str)++⟨b.toArray⟩:Str)=⟨(a++b).toArray⟩:=by
  show Str.append _ _=_
  unfold Str.append
  simp
 rw[e];exact this
theorem Yc(r:Al c f R σ s.heap){xs ys:List Val}{ra rb:Value}(ha:VH c R s.heap (.seq false xs) ra)(hb:VH c R s.heap (.seq false ys) rb)(h:xs.length+ys.length≤Az):
  AL c f A R σ s (binaryOp .Add ra rb) (.seq false (xs++ys)):=by
 refine AL.made r fun E Q m led r0 hq=>?_
 refine AR (ha.seq r0) fun a vs n hq3 hg hl hs=>?_;subst hq3
 refine AR (hb.seq r0) fun b us n' hq3 hg' hl' hs'=>?_;subst hq3
 refine add_lists r0.F r0.N (AF hg) (AF hg') (fun h' F N=>?_) (by rw[hs.length,hs'.length];exact h)
 refine hq _ _ _ h' s.toks F N (fun p hp=>jv (r0.N p hp).1) fun R' le hz=>?_
 exact .seq (.of (.inr hz)) (by rw[zd];exact h) (Bv.append (Vs.up le hs) (Vs.up le hs'))
theorem Yh(r:Al c f R σ s.heap){a:Int}{n:Nat}{t u:Tok}:AL c f A R σ s (binaryOp .Mod (.int a t) (.int (.ofNat (n+1)) u)) (.int (Int.fmod a (.ofNat (n+1)))):=
 AL.plain r fun _ _ hq=>mod_int' (by intro e;cases e) (hq _ _ (.int _ _))
theorem G6{op:CmpOp}{b:Bool}(r:Al c f R σ s.heap){x y:Int}{t u:Tok}(h:match op with | .Eq=>b=IT x y | .NotEq=>b= !(IT x y) | .Lt=>b=ltI x y | .LtE=>b= !(ltI y x) | .Gt=>b=ltI y x | .GtE=>b= !(ltI x y) |_=>False):
  AL c f A R σ s (compareOp op (.int x t) (.int y u)) (.bool b):=by
 refine AL.plain r fun E Q hq=>?_
 cases op with
 |Eq=>subst h;refine eq_int ?_;rw[GN]at hq;exact hq _ _ (.bool _)
 |NotEq=>subst h;refine ne_int ?_;rw[GN]at hq;exact hq _ _ (.bool _)
 |Lt=>subst h;refine lt_int ?_;rw[I9]at hq;exact hq _ _ (.bool _)
 |LtE=>subst h;refine le_int ?_;rw[I9,←decide_not]at hq;simp only[JT]at hq;exact hq _ _ (.bool _)
 |Gt=>subst h;refine gt_int ?_;rw[I9]at hq;exact hq _ _ (.bool _)
 |GtE=>subst h;refine ge_int ?_;rw[I9,←decide_not]at hq;simp only[JT]at hq;exact hq _ _ (.bool _)
 |_=>exact h.elim
theorem dW(r:Al c f R σ s.heap){x y:Txt}{t u:Tok}:AL c f A R σ s (compareOp .Eq (.str ⟨x.toArray⟩ t) (.str ⟨y.toArray⟩ u)) (.bool (Bt x y)):=by
 refine AL.plain r fun E Q hq=>PyProof.Rows.eq_str ?_
 rw[CP]
 exact hq _ _ (.bool _)
theorem d5(r:Al c f R σ s.heap){x y:Txt}{t u:Tok}:AL c f A R σ s (compareOp .NotEq (.str ⟨x.toArray⟩ t) (.str ⟨y.toArray⟩ u)) (.bool !(Bt x y)):=by
 refine AL.plain r fun E Q hq=>PyProof.Rows.ne_str ?_
 have:((⟨x.toArray⟩:Str) !=⟨y.toArray⟩)= !(Bt x y):=by rw[←CP];rfl
 rw[this]
 exact hq _ _ (.bool _)
theorem dU(r:Al c f R σ s.heap){x y:Bool}:AL c f A R σ s (compareOp .Eq (.bool x) (.bool y)) (.bool (cond x y (!y))):=by
 refine AL.plain r fun E Q hq=>eq_bool ?_
 have:(x==y)=cond x y (!y):=by induction x using za <;>induction y using za <;>rfl
 rw[this];exact hq _ _ (.bool _)
end
end
end Ak
end
namespace Ak
section
open PySem PySem.W PySem.Calls PyProof.Rows PySem.StrLaws PySem.Builtin PySem.Builtin.Str
theorem neg_add{k n:Nat}(h:k+1≤n):Int.negSucc k+(n:Int)=((n - (k+1):Nat):Int):=Int.subNatNat_of_le h
theorem neg_sub{k n:Nat}(h:n < k+1):Int.negSucc k+(n:Int) < 0:=by
 show Int.subNatNat n (k+1) < 0
 rw[Int.subNatNat_of_lt h];exact Jf _
theorem PR{α:Type}{t:List α}{i:Int}{x:α}(h:IC t i=some x):∃j,j < t.length∧t[j]? =some x∧((0≤i∧i=(j:Int))∨(i < 0∧i+(t.length:Int)=(j:Int))):=by
 induction i using zW with
 |ofNat n=>
  have h':t[n]? =some x:=h
  exact⟨n,(zu.mp h').1,h',.inl ⟨jr n,rfl⟩⟩
 |negSucc n=>
  have h:cond (Nat.blt n t.length) t[t.length - (n+1)]? none=some x:=h
  induction q:Nat.blt n t.length using za with
  |false=>rw[q]at h;exact nomatch h
  |true=>
   rw[q]at h
   exact⟨t.length - (n+1),(zu.mp h).1,h,.inr ⟨Jf n,neg_add (zp q)⟩⟩
theorem GG{α:Type}{t:List α}{i:Int}{x:α}(h:IC t i=some x)(hl:t.length≤Az): -(2 ^ 63:Int)≤i∧i < 2 ^ 63:=by
 have:=BO
 refine BM (PR h) fun j hj _ ho=>?_
 have h2:i+(t.length:Int)=(j:Int)∨i=(j:Int):=ho.elim (fun h=>.inr h.2) fun h=>.inl h.2
 constructor <;>lia
theorem UC{m len:Nat}(h:m < len):(if(decide (0≤(m:Int)) && decide ((m:Int) < (len:Int)))=true then some ((m:Int)).toNat else none)=some m:=
 zX (zz.mpr ⟨js (jr m),js (Jv.mpr h)⟩)
theorem Mh{α:Type}{t:List α}{i:Int}{x:α}(h:IC t i=some x):∃j,seqIndex? i t.length=some j∧t[j]? =some x∧((0≤i∧i=(j:Int))∨(i < 0∧i+(t.length:Int)=(j:Int))):=by
 refine BM (PR h) fun j hj hx ho=>⟨j,?_,hx,ho⟩
 show(if(decide (0≤(if i < 0 then i+(t.length:Int)else i)) && decide ((if i < 0 then i+(t.length:Int)else i) < (t.length:Int)))=true then some (if i < 0 then i+(t.length:Int)else i).toNat else none)=_
 have e:(if i < 0 then i+(t.length:Int)else i)=(j:Int):=ho.elim (fun h=>(zP (JT.mpr h.1)).trans h.2) fun h=>(zX h.1).trans h.2
 rw[e];exact UC hj
theorem Gu(slice:PySem.Expr)(o i:Value):∃ops,subscripted slice false o i=operate ops (getItem o i):=by
 cases slice with
 |Slice a b st p=>induction st using zh <;>exact⟨_,rfl⟩
 |_=>exact⟨_,rfl⟩
section
variable {c:Cx}{f:Fx}{A:Around}{d:Nat}{R R':Rec}{σ σ':St}{s s':Shared}{E:Value→Shared→Prop}{m:Str→Option Value}{led:List (Addr×Obj)}{rx:Rx}
theorem CC{value slice:PySem.Expr}{o i:Value}{T id:String}{Q:Value→Shared→Prop}(hT:s.TypeIs o T)(hs:typeLookup (.type T) "__getitem__"=pure (some (.builtin id)))
  (h:wpAny (model c.prog c.w) A (getItem o i) Q E s):wpAny (model c.prog c.w) A (subscriptTail value slice o i) Q E s:=by
 refine zg (Gu slice o i) fun ops e=>?_
 exact tail_any hT hs h e
theorem Tv{rx:Rx}{x v:Val}{i:Int}(h:AG rx .idx x (.int i)=some v):(∃t ch,x=.str t∧IC t i=some ch∧v=.str [ch])∨∃tup xs,x=.seq tup xs∧IC xs i=some v:=by
 induction x using Val.casesOn with
 |str t=>
  have h:(match IC t i with |some c=>some (Val.str [c]) |none=>none)=some v:=h
  induction q:IC t i using zh with
  |none=>rw[q]at h;exact nomatch h
  |some ch=>rw[q]at h;exact .inl ⟨t,ch,rfl,q,(ze h).symm⟩
 |seq tup xs=>exact .inr ⟨tup,xs,rfl,h⟩
 |_=>exact nomatch h
theorem dY(r:Al c f R σ s.heap){x v:Val}{rv:Value}{i:Int}{u:Tok}{value slice:PySem.Expr}(hx:VH c R s.heap x rv)(h:AG rx .idx x (.int i)=some v):
  AL c f A R σ s (subscriptTail value slice rv (.int i u)) v:=by
 refine(Tv h).elim (fun h=>?_) fun h=>?_
 ·refine Ba h fun t ch ex ha ev=>?_
  rw[ex]at hx
  refine Ab hx.iI fun tk hl er=>?_
  rw[er,ev]
  refine AL.plain r fun E Q hq=>?_
  refine CC (Jr _ _ _) slot_str_getitem.lookup ?_
  refine BM (Mh ha) fun j hj hx ho=>?_
  exact PyProof.Rows.getItem_str (c:=ch) (by have b:=GG ha hl;rw[zJ (JT.mpr b.1),zJ (Int.not_le.mpr b.2)];rfl) (by rw[Bh,hj];exact ji.trans hx) (hq _ _ (.str [ch] _ (by have:=BO;show 1≤Az;lia)))
 ·refine A6 h fun tup xs ex h'=>?_
  rw[ex]at hx
  refine Aq r fun m led r0=>?_
  refine AR (hx.seq r0) fun a vs n er hg hl hs=>?_
  rw[er]
  refine BM (Mh h') fun j hj hxj ho=>?_
  refine Ao (GG h' hl) fun b1 b2=>?_
  refine Ab (hs.get hxj) fun rv e1 e2=>?_
  have e1:vs.toArray[j]? =some rv:=ji.trans e1
  refine AL.plain ⟨m,led,r0⟩ fun E Q hq=>?_
  have hq':=hq rv s.toks e2
  have hsz:vs.toArray.size=xs.length:=hs.length
  induction tup using za with
  |true=>
   refine CC (Dk hg).typeIs slot_tuple_getitem.lookup ?_
   exact PyProof.Rows.getItem_tuple (Dk hg) b1 b2 (by rw[hsz];exact hj) e1 hq'
  |false=>
   refine CC (AF hg).typeIs slot_list_getitem.lookup ?_
   refine ho.elim (fun h=>?_) fun h=>?_
   ·exact wpAny_getItem_list (AF hg) h.1 b2 (by rw[h.2];exact e1) hq'
   ·exact wpAny_getItem_list_neg (AF hg) h.1 (by rw[hsz];exact Int.neg_le_of_neg_le (by have:=h.2;lia)) b1 (by rw[hsz,h.2];exact e1) hq'
theorem Nt(ch:Nat)(t:Txt):cin ch t=decide (ch∈t):=by
 refine K5 ?_
 induction t with
 |nil=>exact⟨fun h=>Bool.noConfusion h,fun h=>nomatch h⟩
 |cons b y ih=>
  show cond (Nat.beq ch b) true (cin ch y)=true↔_
  induction q:Nat.beq ch b using za with
  |true=>exact⟨fun _=>zD q▸ .head _,fun _=>rfl⟩
  |false=>exact⟨fun h=>.tail _ (ih.mp h),fun h=>(z5.mp h).elim (fun e=>by rw[e,Jd]at q;exact Bool.noConfusion q) ih.mpr⟩
theorem dZ(r:Al c f R σ s.heap){ch:Nat}{b:Txt}{t u:Tok}:AL c f A R σ s (compareOp .In (.str ⟨[ch].toArray⟩ t) (.str ⟨b.toArray⟩ u)) (.bool (cin ch b)):=by
 refine AL.plain r fun E Q hq=>PyProof.Rows.in_str ?_
 have:=found_one ⟨b.toArray⟩ ch
 rw[show((⟨[ch].toArray⟩:Str))=⟨#[ch]⟩from rfl,this,show(⟨b.toArray⟩:Str).cps.toList=b from rfl,←Nt]
 exact hq _ _ (.bool _)
theorem Ym(r:Al c f R σ s.heap){ch:Nat}{b:Txt}{t u:Tok}:AL c f A R σ s (compareOp .NotIn (.str ⟨[ch].toArray⟩ t) (.str ⟨b.toArray⟩ u)) (.bool !(cin ch b)):=by
 refine AL.plain r fun E Q hq=>PyProof.Rows.notIn_str ?_
 have:=found_one ⟨b.toArray⟩ ch
 rw[show((⟨[ch].toArray⟩:Str))=⟨#[ch]⟩from rfl,this,show(⟨b.toArray⟩:Str).cps.toList=b from rfl,←Nt]
 exact hq _ _ (.bool _)
theorem Lk(x y:Str)(i j:Int)(t u v v':Tok):Gives («str.find» ⟨[.str x t,.str y u,.int i v,.int j v'],[]⟩) (.int (match occurrences x y (fromIndex x.length i) (min (fromIndex x.length j) x.length) 1 with |k::_=>(k:Int) |[]=> -1)):=by
 show Gives (match occurrences x y (fromIndex x.length i) (min (fromIndex x.length j) x.length) 1 with |k::_=>retInt k |[]=>(do rule "str.find.not-found";retInt (-1))) _
 induction occurrences x y (fromIndex x.length i) (min (fromIndex x.length j) x.length) 1 using zi with
 |nil=>exact .rule (.of_eq rfl)
 |cons k _=>exact .of_eq rfl
theorem IY(x y:Str)(i j:Int)(t u v v':Tok):Gives («str.rfind» ⟨[.str x t,.str y u,.int i v,.int j v'],[]⟩) (.int (match lastOccurrence x y (fromIndex x.length i) (min (fromIndex x.length j) x.length)with |some k=>(k:Int) |none=> -1)):=by
 show Gives (match lastOccurrence x y (fromIndex x.length i) (min (fromIndex x.length j) x.length)with |some k=>retInt k |none=>(do rule "str.rfind.not-found";retInt (-1))) _
 induction lastOccurrence x y (fromIndex x.length i) (min (fromIndex x.length j) x.length)using zh with
 |none=>exact .rule (.of_eq rfl)
 |some k=>exact .of_eq rfl
theorem BI(n a:Nat):fromIndex n (Int.ofNat a)=a:=by
 show(max 0 (if(a:Int) < 0 then _ else(a:Int))).toNat=a
 rw[zP (JT.mpr (jr a)),JF (jr a)];rfl
theorem GQ(n:Nat)(b:Int):min (fromIndex n b) n=clip n b:=by
 induction b using zW with
 |ofNat k=>rw[BI];rfl
 |negSucc k=>
  show min (max 0 (if Int.negSucc k < 0 then Int.negSucc k+(n:Int)else _)).toNat n=n - (k+1)
  rw[zX (Jf k)]
  by_cases h:k+1≤n
  ·rw[neg_add h,JF (jr _)];exact jd (jJ _ _)
  ·rw[Int.max_eq_left (Int.le_of_lt (neg_sub (JD h))),Nat.sub_eq_zero_of_le (Ju h)];exact JP n
theorem Mf(x y i j:Value):argsOk "str.find" ⟨[x,y,i,j],[]⟩:=by unfold argsOk;kernel_rfl
theorem KT(x y i j:Value):argsOk "str.rfind" ⟨[x,y,i,j],[]⟩:=by unfold argsOk;kernel_rfl
theorem W7(t x:Txt)(a:Nat)(k1 k2 k3:Tok):Gives («str.find» ⟨[.str ⟨t.toArray⟩ k1,.str ⟨x.toArray⟩ k2,.int (.ofNat a) k3],[]⟩) (.int (Di x t a t.length)):=by
 have h:=gives_str_find_from ⟨t.toArray⟩ ⟨x.toArray⟩ (Int.ofNat a) k1 k2 k3
 rw[BI,Bh]at h
 exact Eq.subst (motive:=fun z=>Gives _ (Made.int z)) (Ia t x a t.length) h
theorem W8(t x:Txt)(a b:Nat)(k1 k2 k3 k4:Tok):Gives («str.find» ⟨[.str ⟨t.toArray⟩ k1,.str ⟨x.toArray⟩ k2,.int (.ofNat a) k3,.int (.ofNat b) k4],[]⟩) (.int (Di x t a (min b t.length))):=by
 have h:=Lk ⟨t.toArray⟩ ⟨x.toArray⟩ (Int.ofNat a) (Int.ofNat b) k1 k2 k3 k4
 rw[BI,BI,Bh]at h
 exact Eq.subst (motive:=fun z=>Gives _ (Made.int z)) (Ia t x a (min b t.length)) h
theorem Ts(t x:Txt)(a:Nat)(b:Int)(k1 k2 k3 k4:Tok):Gives («str.rfind» ⟨[.str ⟨t.toArray⟩ k1,.str ⟨x.toArray⟩ k2,.int (.ofNat a) k3,.int b k4],[]⟩) (.int (Ck x t a (clip t.length b))):=by
 have h:=IY ⟨t.toArray⟩ ⟨x.toArray⟩ (Int.ofNat a) b k1 k2 k3 k4
 rw[BI,Bh,GQ]at h
 exact Eq.subst (motive:=fun z=>Gives _ (Made.int z)) (Ls t x a (clip t.length b)) h
theorem Ur(r:Al c f R σ s.heap){t x:Txt}{a:Nat}{k1 k2 k3:Tok}:AL c f A R σ s (call (.builtin "str.find") [.str ⟨t.toArray⟩ k1,.str ⟨x.toArray⟩ k2,.int (.ofNat a) k3]) (.int (Di x t a t.length)):=
 AL.plain r fun _ _ hq=>call_gives F.slot_str_find (Jr _ _ _) F.entry_str_find (F.args_str_find_3 _ _ _) (W7 t x a k1 k2 k3) (hq _ _ (.int _ _))
theorem Us(r:Al c f R σ s.heap){t x:Txt}{a b:Nat}{k1 k2 k3 k4:Tok}:
  AL c f A R σ s (call (.builtin "str.find") [.str ⟨t.toArray⟩ k1,.str ⟨x.toArray⟩ k2,.int (.ofNat a) k3,.int (.ofNat b) k4]) (.int (Di x t a (min b t.length))):=
 AL.plain r fun _ _ hq=>call_gives F.slot_str_find (Jr _ _ _) F.entry_str_find (Mf _ _ _ _) (W8 t x a b k1 k2 k3 k4) (hq _ _ (.int _ _))
theorem RR(r:Al c f R σ s.heap){t x:Txt}{a:Nat}{b:Int}{k1 k2 k3 k4:Tok}:
  AL c f A R σ s (call (.builtin "str.rfind") [.str ⟨t.toArray⟩ k1,.str ⟨x.toArray⟩ k2,.int (.ofNat a) k3,.int b k4]) (.int (Ck x t a (clip t.length b))):=
 AL.plain r fun _ _ hq=>call_gives F.slot_str_rfind (Jr _ _ _) F.entry_str_rfind (KT _ _ _ _) (Ts t x a b k1 k2 k3 k4) (hq _ _ (.int _ _))
end
end
section
open PySem PySem.W PySem.Calls PyProof.Rows PySem.StrLaws PySem.Builtin PySem.Builtin.Str
inductive C0:Val→Option (Int×Tok)→Prop
 |none:C0 .none none
 |int (i:Int) (t:Tok):C0 (.int i) (some (i,t))
theorem part_of{c:Cx}{R:Rec}{x:Val}{rv:Value}{a:Int}(h:c.V R x rv)(hp:DW x=some a):∃p,C0 x p∧rv=partValue p:=by
 induction x using Val.casesOn with
 |none=>exact⟨none,.none,h.inv⟩
 |int i=>exact zg h.inv fun t e=>⟨some (i,t),.int i t,e⟩
 |_=>exact nomatch hp
theorem C0.QL{x:Val}{p:Option (Int×Tok)}(h:C0 x p):IsPart (partValue p) (p.map (·.1)):=by
 induction h using C0.casesOn with
 |none=>exact .none
 |int i t=>exact .int i t
theorem Ll{n:Nat}{x:Val}{i:Int}(h:Da n x=some i):∃a,DW x=some a:=by
 induction x using Val.casesOn with
 |none=>exact⟨0,rfl⟩
 |int i=>exact⟨i,rfl⟩
 |_=>exact nomatch h
theorem Vn(i:Int)(n:Nat):max 0 (min (if i < 0 then i+(n:Int)else i) (n:Int))=((clip n i:Nat):Int):=by
 induction i using zW with
 |ofNat k=>
  show max 0 (min (if(k:Int) < 0 then _ else(k:Int)) (n:Int))=((min k n:Nat):Int)
  rw[zP (JT.mpr (jr k))]
  induction Nat.le_total k n using jI with
  |inl h=>rw[jd h,Int.min_eq_left (Int.ofNat_le.mpr h),JF (jr k)]
  |inr h=>rw[J3 h,Int.min_eq_right (Int.ofNat_le.mpr h),JF (jr n)]
 |negSucc k=>
  rw[zX (Jf k)]
  show _=((n - (k+1):Nat):Int)
  by_cases h:k+1≤n
  ·rw[neg_add h,Int.min_eq_left (Int.ofNat_le.mpr (jJ _ _)),JF (jr _)]
  ·rw[Nat.sub_eq_zero_of_le (Ju h)]
   exact Int.max_eq_left (Int.le_trans (Int.min_le_left _ _) (Int.le_of_lt (neg_sub (JD h))))
theorem IM(n:Nat)(i:Int):clip n i≤n:=by
 induction i using zW with
 |ofNat k=>exact Nat.min_le_right k n
 |negSucc k=>exact jJ _ _
noncomputable def cl(n:Nat)(p:Option Int)(d:Int):Int:=match p with
 |none=>d
 |some i=>max 0 (min (if i < 0 then i+(n:Int)else i) (n:Int))
theorem Vm{x:Val}{p:Option (Int×Tok)}{a:Int}{n:Nat}(h:C0 x p)(ha:DW x=some a):cl n (p.map (·.1)) 0=((clip n a:Nat):Int):=by
 induction h using C0.casesOn with
 |none=>rw[←ze ha];exact zB Int.ofNat (JP n).symm
 |int i t=>rw[←ze ha];exact Vn _ n
theorem Vl{x:Val}{p:Option (Int×Tok)}{b:Int}{n:Nat}(h:C0 x p)(hb:Da n x=some b):cl n (p.map (·.1)) (n:Int)=((clip n b:Nat):Int):=by
 induction h using C0.casesOn with
 |none=>rw[←ze hb];exact zB Int.ofNat (Nat.min_self n).symm
 |int i t=>rw[←ze hb];exact Vn _ n
theorem I2{lo hi:Val}{pl pu:Option (Int×Tok)}{a b:Int}{n:Nat}(hl:C0 lo pl)(hu:C0 hi pu)(ha:DW lo=some a)(hb:Da n hi=some b):
  strSliceIndices (pl.map (·.1)) (pu.map (·.1)) 1 n=sliceRange ((clip n a:Nat):Int) ((clip n b:Nat):Int) 1:=by
 rw[←Vm hl ha,←Vl hu hb];rfl
theorem KZ{lo hi:Val}{pl pu:Option (Int×Tok)}{a b:Int}{n:Nat}(hl:C0 lo pl)(hu:C0 hi pu)(ha:DW lo=some a)(hb:Da n hi=some b):
  sliceBounds (pl.map (·.1)) (pu.map (·.1)) none n=(((clip n a:Nat):Int),((clip n b:Nat):Int),1):=by
 rw[←Vm hl ha,←Vl hu hb];rfl
theorem FX{α:Type}(t:List α)(a b:Nat):(sliceOf t a b).Sublist t:=(List.drop_sublist a _).trans (List.take_sublist b t)
theorem Hb{α:Type}(t:List α){a b:Nat}(hb:b≤t.length):(sliceOf t a b).length=b - a:=by
 unfold sliceOf
 rw[z4,jo,jd hb]
theorem Ha{α:Type}(t:List α)(a b:Nat):(sliceOf t a b).length≤t.length:=(FX t a b).length_le
theorem Bv.sliceOf{PC:Addr}{Z:Addr→Obj→Prop}{ρ:List Addr}{xs:List Val}{vs:List Value}(h:Bv PC Z ρ xs vs)(a b:Nat):Bv PC Z ρ (Ak.sliceOf xs a b) (Ak.sliceOf vs a b):=
 (h.take b).drop a
section
variable {c:Cx}{f:Fx}{A:Around}{d:Nat}{R R':Rec}{σ σ':St}{s s':Shared}{E:Value→Shared→Prop}{m:Str→Option Value}{led:List (Addr×Obj)}{rx:Rx}
noncomputable abbrev EA(l u:Value):Obj:={cls:=.type "slice",data:=.fields #[l,u,.none]}
theorem Rel.push(r:Rel c f R σ s.heap m led)(o:Obj):Rel c f R σ (s.heap.push o) m led:=r.heap (r.F.push o) (r.N.pushKeep o)
theorem Al.push(r:Al c f R σ s.heap)(o:Obj):Al c f R σ (s.heap.push o):=by
 refine Aq r ?_;clear r;intro m led r
 exact⟨m,led,r.push o⟩
theorem Yo(r:Al c f R σ s.heap){t:Txt}{tk:Tok}{lo hi:Val}{vl vu:Value}{a b:Int}{value:PySem.Expr}{le ue:Option PySem.Expr}{p:Pos}(hl:t.length≤Az)
  (hlo:c.V R lo vl) (hhi:c.V R hi vu) (ha:DW lo=some a) (hb:Da t.length hi=some b):
  AL c f A R σ {s with heap:=s.heap.push (EA vl vu)} (subscriptTail value (.Slice le ue none p) (.str ⟨t.toArray⟩ tk) (.ref s.heap.objs.size)) (.str (slice t a b)):=by
 refine Ab (part_of hlo ha) fun pl Pl hq2=>?_;subst hq2
 refine zg (Ll hb) fun b' hb'=>?_
 refine Ab (part_of hhi hb') fun pu Pu hq2=>?_;subst hq2
 refine AL.plain (s:={s with heap:=s.heap.push (EA (partValue pl) (partValue pu))}) (r.push _) fun E Q hq=>?_
 refine CC (Jr _ _ _) slot_str_getitem.lookup ?_
 refine wpAny_getItem_str_slice (l:=pl) (u:=pu) (st:=none) ⟨_,j5 _ rfl,rfl,rfl⟩ rfl ?_
 have hidx:=I2 Pl Pu ha hb
 have hpick:(slicePicked ⟨t.toArray⟩ pl pu none).filterMap ((⟨t.toArray⟩:Str).cps[·]?)=slice t a b:=by
  show(strSliceIndices _ _ 1 (Str.length ⟨t.toArray⟩)).filterMap _=_
  rw[Bh,hidx]
  exact G8 t _ rfl (IM _ _)
 unfold sliceMade
 split
 ·rename _=>h
  have h2:=eq_of_beq (zz.mp h).2
  have hlen:(slicePicked ⟨t.toArray⟩ pl pu none).length=(slice t a b).length:=by
   show(strSliceIndices _ _ 1 (Str.length ⟨t.toArray⟩)).length=_
   rw[Bh,hidx,LL,z3,List.length_range]
   exact(Hb t (IM _ _)).symm
  have hs:slice t a b=t:=(FX t _ _).eq_of_length (hlen.symm.trans h2)
  exact hq (.str ⟨t.toArray⟩ tk) s.toks (by rw[hs];exact .str _ _ hl)
 ·rw[hpick]
  have hle:(slice t a b).length≤Az:=zl (Ha _ _ _) hl
  exact⟨hle,hq _ _ (.str _ _ hle)⟩
theorem iA(r0:Rel c f R σ s.heap m led){xs:List Val}{rv:Value}{lo hi:Val}{vl vu:Value}{a b:Int}{value:PySem.Expr}{le ue:Option PySem.Expr}{p:Pos}
  (hx:VH c R s.heap (.seq false xs) rv) (hlo:c.V R lo vl) (hhi:c.V R hi vu) (ha:DW lo=some a) (hb:Da xs.length hi=some b) {Q:Value→Shared→Prop}
  (hq:∀R' rv s' led',R.le R'→Ar s s'→Rel c f R' σ s'.heap m led'→c.V R' (.seq false (slice xs a b)) rv→Q rv s'):
  wpAny (model c.prog c.w) A (subscriptTail value (.Slice le ue none p) rv (.ref s.heap.objs.size)) Q E {s with heap:=s.heap.push (EA vl vu)}:=by
 refine Ab (part_of hlo ha) fun pl Pl hq2=>?_;subst hq2
 refine zg (Ll hb) fun b' hb'=>?_
 refine Ab (part_of hhi hb') fun pu Pu hq2=>?_;subst hq2
 refine AR (hx.seq r0) fun l vs n hq3 hg hl hs=>?_;subst hq3
 have hsz:vs.toArray.size=xs.length:=hs.length
 refine CC (Heap.IsList.typeIs (s:={s with heap:=s.heap.push (EA (partValue pl) (partValue pu))}) ((AF hg).push _)) list_getitem_lookup (wpAny_getItem_list_slice ((AF hg).push _) (Heap.IsSliceOf.new ..) Pl.QL Pu.QL .none (fun h=>nomatch h) ?_ (by rw[hsz,←A8];exact hl))
 have N1:=JZ (r0.F.push (EA (partValue pl) (partValue pu))) (r0.N.grown fun _ _ e=>qf _ e) {cls:=.type "list",data:=.seq (slicePick vs.toArray (pl.map (·.1)) (pu.map (·.1)) none)}
 rw[Heap.size_push]at N1
 show Q (.ref (s.heap.push _).objs.size) _
 rw[Heap.size_push]
 have F:=(r0.F.push (EA (partValue pl) (partValue pu))).push {cls:=.type "list",data:=.seq (slicePick vs.toArray (pl.map (·.1)) (pu.map (·.1)) none)}
 have hpick:slicePick vs.toArray (pl.map (·.1)) (pu.map (·.1)) none=(sliceOf vs (clip xs.length a) (clip xs.length b)).toArray:=by
  unfold slicePick
  rw[hsz,KZ Pl Pu ha hb]
  rw[G8 vs _ rfl (by rw[hs.length];exact IM _ _)]
 rw[hpick]at N1 F ⊢
 refine Gw (r0.frozen F N1 (fun p hp=>JA (jv (r0.N p hp).1))) fun R' le' r' hz _ _=>?_
 exact hq R' _ _ _ le' AB r' (.seq (.of (.inr hz)) (zl (Ha _ _ _) hl) (Bv.sliceOf (Vs.up le' hs) _ _))
theorem Yn(r:Al c f R σ s.heap){xs:List Val}{rv:Value}{lo hi:Val}{vl vu:Value}{a b:Int}{value:PySem.Expr}{le ue:Option PySem.Expr}{p:Pos}
  (hx:VH c R s.heap (.seq false xs) rv) (hlo:c.V R lo vl) (hhi:c.V R hi vu) (ha:DW lo=some a) (hb:Da xs.length hi=some b):
  AL c f A R σ {s with heap:=s.heap.push (EA vl vu)} (subscriptTail value (.Slice le ue none p) rv (.ref s.heap.objs.size)) (.seq false (slice xs a b)):=fun E Q hq=>
 Aq r fun m led r0=>iA r0 hx hlo hhi ha hb fun R' rv s' led' le sm r' hv=>hq R' rv s' le ⟨sm.gens,sm.drawn,sm.os,sm.tk⟩ ⟨m,led',r'⟩ hv
end
end
section
open PySem PySem.StrLaws PySem.Builtin PySem.Builtin.Str
noncomputable def BP(x t:Txt):(k n free:Nat)→List Nat
 |_,0,_=>[]
 |k,n+1,free=>if free≤k∧EN x t t.length k=true then k::BP x t (k+1) n (k+x.length)else BP x t (k+1) n free
theorem MD(t x:Txt)(n:Nat):∀(k free:Nat) (arr:Array Nat),arr.size≤k→k+n=t.length+1→
  (forIn (List.range' k n) (arr,free) (occBody ⟨t.toArray⟩ ⟨x.toArray⟩ t.length (t.length+1))).run.fst.toList=arr.toList++BP x t k n free:=by
 induction n with
 |zero=>exact fun _ _ _ _ _=>(zL _).symm
 |succ n ih=>
  intro k free arr ha hk
  have hk':k+1+n=t.length+1:=by rw[←hk,j3];rfl
  rw[List.range'_succ]
  show _=arr.toList++(if free≤k∧EN x t t.length k=true then _ else _)
  by_cases hc:free≤k∧EN x t t.length k=true
  ·have h1:=(EO t x t.length k).mpr hc.2
   rw[Kj ⟨⟨⟨jA ha (Nat.lt_of_lt_of_eq (Jg (jl n)) hk),hc.1⟩,h1.1⟩,h1.2⟩,zX hc]
   refine(ih (k+1) (k+x.length) (arr.push k) (by rw[Array.size_push];exact zN ha) hk').trans ?_
   rw[Array.toList_push,zk];rfl
  ·rw[ME fun h=>hc ⟨h.1.1.2,(EO t x t.length k).mp ⟨h.1.2,h.2⟩⟩,zP hc]
   exact ih (k+1) free arr (jx ha) hk'
theorem T9(t x:Txt):occurrences ⟨t.toArray⟩ ⟨x.toArray⟩ 0 (⟨t.toArray⟩:Str).length ((⟨t.toArray⟩:Str).length+1)=BP x t 0 (t.length+1) 0:=by
 rw[occ_eq]
 exact MD t x (t.length+1) 0 0 #[] (zw _) (jD _)
noncomputable def GK(t z:Txt)(w:Nat):List Nat→Nat→Txt
 |[],st=>(t.take t.length).drop st
 |c::cs,st=>(t.take c).drop st++z++GK t z w cs (c+w)
theorem V4{t:Txt}{a b:Nat}:(strSub ⟨t.toArray⟩ a b).cps.toList=(t.take b).drop a:=
 Array.toList_extract.trans (List.extract_eq_take_drop.trans JS.symm)
theorem OL(t z:Txt)(w:Nat)(cs:List Nat):∀(st:Nat) (acc:Array Nat),
  ((((cs.map (· +w)).zip (cs.drop 1++[t.length])).map fun(p:Nat×Nat)=>strSub ⟨t.toArray⟩ p.1 p.2).foldl (fun acc p=>acc++(⟨z.toArray⟩:Str).cps++p.cps) (acc++(strSub ⟨t.toArray⟩ st (cs.headD t.length)).cps)).toList
   =acc.toList++GK t z w cs st:=by
 induction cs with
 |nil=>exact fun st acc=>JL.trans (zB (acc.toList++·) V4)
 |cons c cs ih=>
  intro st acc
  have h:=ih (c+w) (acc++(strSub ⟨t.toArray⟩ st c).cps++z.toArray)
  rw[JL,JL,V4,zk,zk,←zk ((t.take c).drop st)]at h
  induction cs using zi with
  |nil=>exact h
  |cons c' cs'=>
   refine Eq.trans ?_ h
   show Array.toList (List.foldl _ _ (strSub ⟨t.toArray⟩ (c+w) c'::_))=_
   rw[qb];rfl
theorem Qz(t z:Txt)(w:Nat)(cs:List Nat):(glued ⟨z.toArray⟩ (partsBetween ⟨t.toArray⟩ cs w)).cps.toList=GK t z w cs 0:=by
 have h:=OL t z w cs 0 #[]
 rw[Array.empty_append]at h
 induction cs using zi <;>exact h
theorem No(x t:Txt)(k:Nat)(hk:k≤t.length):EN x t t.length k=pre? x (t.drop k):=by
 show cond (Nat.ble (k+x.length) t.length) (pre? x (t.drop k)) false=_
 induction q:pre? x (t.drop k)using za with
 |false=>induction Nat.ble (k+x.length) t.length using za <;>rfl
 |true=>
  have:=Ks q
  rw[z4]at this
  rw[zt (j6 hk this)];rfl
theorem CA(t z:Txt)(o:Nat)(x:Txt):∀(n k free:Nat),k+n=t.length+1→free≤t.length→
  GK t z (o::x).length (BP (o::x) t k n free) free=(t.take k).drop free++AA (o::x) z (free - k) (t.drop k)
 |0,k,free,hk,hf=>by
  have hk':k=t.length+1:=by lia
  subst hk'
  rw[show t.drop (t.length+1)=[]from jq (by lia)]
  simp only[BP,GK,AA,zL]
  rw[jX (zw _),jX (zV _)]
 |n+1,k,free,hk,hf=>by
  unfold BP
  have hkl:k≤t.length:=by lia
  by_cases hkn:k=t.length
  ·subst hkn
   have hno:¬(free≤t.length∧EN (o::x) t t.length t.length=true):=by
    intro h
    have:=h.2
    rw[No _ _ _ (zw _),jq (zw _)]at this
    cases this
   rw[zP hno,CA t z o x n (t.length+1) free (by lia) hf]
   rw[jq (i:=t.length+1) (by lia),jq (i:=t.length) (zw _)]
   simp only[AA,zL]
   rw[jX (zw _),jX (zV _)]
  ·have hlt:k < t.length:=by lia
   obtain⟨ch,hch⟩:∃ch,t.drop k=ch::t.drop (k+1):=⟨t[k],by rw[j7 hlt]⟩
   have htk:t.take (k+1)=t.take k++[ch]:=by
    have hg:t[k]=ch:=by
     rw[j7 hlt]at hch
     exact(z9 hch).1
    rw[List.take_succ_eq_append_getElem hlt,hg]
   by_cases hfk:free≤k
   ·have h0:free - k=0:=by lia
    rw[h0,hch]
    have hat:=No (o::x) t k hkl
    rw[hch]at hat
    by_cases hat':EN (o::x) t t.length k=true
    ·rw[zX ⟨hfk,hat'⟩]
     have hle:k+(o::x).length≤t.length:=by
      unfold EN at hat'
      rw[aA]at hat'
      by_cases h:k+(o::x).length≤t.length
      ·exact h
      ·rw[zJ h]at hat';cases hat'
     rw[GK,CA t z o x n (k+1) (k+(o::x).length) (by lia) hle]
     rw[hat]at hat'
     simp only[AA,hat',jz]
     have e1:k+(o::x).length - (k+1)=(o::x).length - 1:=by lia
     have e2:(t.take (k+1)).drop (k+(o::x).length)=[]:=jq (by rw[jo,zy];lia)
     rw[e1,e2,j8,zk]
    ·rw[zP (fun h=>hat' h.2),CA t z o x n (k+1) free (by lia) hf]
     have h1:free - (k+1)=0:=by lia
     rw[hat]at hat'
     simp only[Bool.not_eq_true]at hat'
     simp only[h1,AA,hat',z6]
     rw[htk,jR (by rw[jo];lia)]
     simp
   ·rw[zP (fun h=>hfk h.1),CA t z o x n (k+1) free (by lia) hf,hch]
    have e:free - k=(free - (k+1))+1:=by lia
    have e2:(t.take (k+1)).drop free=[]:=jq (by rw[jo];lia)
    have e3:(t.take k).drop free=[]:=jq (by rw[jo];lia)
    rw[e,e2,e3]
    simp only[AA]
theorem Uv(t z:Txt)(o:Nat)(x:Txt):(glued ⟨z.toArray⟩ (partsBetween ⟨t.toArray⟩ (BP (o::x) t 0 (t.length+1) 0) (o::x).length))=⟨(AA (o::x) z 0 t).toArray⟩:=by
 have h:=Qz t z (o::x).length (BP (o::x) t 0 (t.length+1) 0)
 rw[CA t z o x (t.length+1) 0 0 (by lia) (by lia)]at h
 simp only[List.take_zero,List.drop_nil,j8,jW,j4]at h
 rw[←h]
theorem RZ(t z:Txt)(o:Nat)(x:Txt)(h:BP (o::x) t 0 (t.length+1) 0=[]):AA (o::x) z 0 t=t:=by
 have h2:=CA t z o x (t.length+1) 0 0 (by lia) (by lia)
 rw[h]at h2
 simp only[GK,List.take_zero,List.drop_nil,j8,jW,j4,List.take_length]at h2
 exact h2.symm
theorem Et(x t:Txt):∀(n k free:Nat),(BP x t k n free).length≤n
 |0,_,_=>by simp[BP]
 |n+1,k,free=>by
  unfold BP
  split
  ·simpa using Et x t n (k+1) _
  ·exact jx (Et x t n (k+1) free)
theorem Ea(old new:Txt)(ho:0 < old.length)(h:new.length≤old.length):∀(t:Txt) (k:Nat),(AA old new k t).length+(min k t.length)≤t.length
 |[],k=>by induction k using zE <;>simp[AA]
 |c::y,k+1=>by
  have:=Ea old new ho h y k
  simp only[AA,zy]
  lia
 |c::y,0=>by
  simp only[AA]
  induction q:pre? old (c::y)using za with
  |true=>
   have h1:=Ea old new ho h y (old.length - 1)
   have h2:=Ks q
   simp only[jz,zd,zy,JP]at h2 ⊢
   lia
  |false=>
   have h1:=Ea old new ho h y 0
   simp only[z6,zy,JP]at h1 ⊢
   lia
theorem RW(a:Txt):∀n:Nat,∀acc:Array Nat,((List.replicate n a.toArray).foldl (· ++·) acc).toList=acc.toList++rep a n
 |0,acc=>by simp[rep]
 |n+1,acc=>by
  rw[List.replicate_succ,qb,RW a n]
  simp[rep]
theorem N4(a:Txt):∀n:Nat,(rep a n).length=a.length*n
 |0=>by simp[rep]
 |n+1=>by rw[rep,zd,N4 a n,J7,jy]
theorem N5:∀n:Nat,rep [] n=[]
 |0=>rfl
 |n+1=>by rw[rep,N5 n];rfl
theorem TZ(a:Txt)(n:Nat):Txt.mul ⟨a.toArray⟩ (Int.ofNat n)=⟨(rep a n).toArray⟩:=by
 unfold Txt.mul
 have e:(⟨a.toArray⟩:Str).length=a.length:=by simp[Str.length]
 by_cases h0:n=0
 ·subst h0;rfl
 ·have h1:¬(Int.ofNat n < 1):=by show¬((n:Int) < 1);lia
  rw[zP h1,e]
  by_cases h2:(Int.ofNat n==1 || a.length==0)=true
  ·rw[zX h2]
   simp only[JJ,beq_iff_eq]at h2
   rcases h2 with h |h
   ·have:n=1:=by
     have:(n:Int)=1:=h
     lia
    subst this;simp[rep]
   ·have:a=[]:=Jj h
    subst this;rw[N5]
  ·rw[zP h2]
   have:=RW a n #[]
   have e2:(Int.ofNat n).toNat=n:=rfl
   rw[e2]
   simp only[j8]at this
   rw[←this]
theorem HP(n:Nat):∀t:Txt,AC n t=true→∀ch∈t,ch < n
 |[],_,ch,h=>by cases h
 |a::y,h,ch,hc=>by
  simp only[AC,T0]at h
  by_cases ha:a < n
  ·rw[js ha]at h
   rcases z5.mp hc with e |hc
   ·subst e;exact ha
   ·exact HP n y h ch hc
  ·rw[zJ ha]at h;cases h
end
section
open PySem PySem.W PySem.Calls PyProof.Rows PySem.StrLaws PySem.Builtin PySem.Builtin.Str
theorem VR.Xe{PC:Addr}{Z:Addr→Obj→Prop}{ρ:List Addr}{i:Int}{v:Value}(h:VR PC Z ρ (.int i) v):∃t,v=.int i t:=h.inv
theorem UV{x:Val}{xs:List Val}{k:Int}(h:sumOf (x::xs)=some k):∃i j,x=.int i∧sumOf xs=some j∧i+j=k:=by
 induction x using Val.casesOn with
 |int i=>
  have h:(match sumOf xs with |some k=>some (i+k) |none=>none)=some k:=h
  induction q:sumOf xs using zh with
  |none=>rw[q]at h;exact nomatch h
  |some j=>rw[q]at h;exact⟨i,j,rfl,rfl,ze h⟩
 |_=>exact nomatch h
theorem TA{c:Cx}{R:Rec}{xs:List Val}:∀{vs:List Value} {k:Int},c.Vs R xs vs→sumOf xs=some k→∃ns,IntsAre vs ns∧ns.sum=k:=by
 induction xs with
 |nil=>
  intro vs k h e
  rw[h.Fu]
  exact⟨[],.nil,ze e⟩
 |cons x xs ih=>
  intro vs k h e
  refine Ba (UV e) fun i j ex q ek=>?_
  refine Ba h.Cc fun v ws ev h1 h2=>?_
  rw[ex]at h1
  refine zg h1.Xe fun t et=>?_
  refine Ab (ih h2 q) fun ns a b=>?_
  rw[ev,et]
  exact⟨i::ns,.cons _ _ a,by rw[List.sum_cons,b];exact ek⟩
theorem Kv{a:Int}{n:Nat}(h:n < 1000000):Builtin.divisionGoesByPylong a (Int.ofNat (n+1))=false:=by
 unfold Builtin.divisionGoesByPylong
 have:(Int.ofNat (n+1)).natAbs.log2≤20:=by
  show(n+1).log2≤20
  have:(n+1).log2 < 21:=(Nat.log2_lt (by lia)).mpr (by lia)
  lia
 have h2:¬((if(Int.ofNat (n+1)==0)=true then 0 else(Int.ofNat (n+1)).natAbs.log2 / 30+1) >300):=by
  split <;>lia
 simp only[h2,decide_false,Bool.false_and]
section
variable {c:Cx}{f:Fx}{A:Around}{d:Nat}{R R':Rec}{σ σ':St}{s s':Shared}{E:Value→Shared→Prop}{m:Str→Option Value}{led:List (Addr×Obj)}{rx:Rx}
theorem AL.kept{t:Sem Value}{v:Val}(r:Al c f R σ s.heap)
  (h:∀(E:Value→Shared→Prop) (Q:Value→Shared→Prop) m led,Rel c f R σ s.heap m led→(∀rv h' tk,Fr f.h₀ f.L h' m→News f.h₀ f.L h' led→c.V R v rv→Q rv {s with heap:=h',toks:=tk})→wpAny (model c.prog c.w) A t Q E s):AL c f A R σ s t v:=by
 intro E Q hq
 refine Aq r ?_;clear r;intro m led r
 refine zZ (wpAny_toks (h E (fun rv s'=>∃h' tk,s'={s with heap:=h',toks:=tk}∧Al c f R σ h'∧c.V R v rv) m led r fun rv h' tk F N hv=>⟨h',tk,rfl,⟨m,led,r.heap F N⟩,hv⟩)) (fun rv s' x=>?_) fun _ _ x=>x.1
 obtain⟨⟨h',tk,rfl,r',hv⟩,ht⟩:=x
 exact hq R rv _ (.refl R) (An ht) r' hv
theorem Ye(r:Al c f R σ s.heap){a:Int}{n:Nat}{t u:Tok}(h:Nat.blt n 1000000=true):AL c f A R σ s (binaryOp .FloorDiv (.int a t) (.int (.ofNat (n+1)) u)) (.int (Int.fdiv a (.ofNat (n+1)))):=by
 rw[T0,JV]at h
 exact AL.plain r fun _ _ hq=>floordiv_int (by intro e;cases e) (hq _ _ (.int _ _)) (.inl (Kv h))
theorem XJ{prog:Program}{w:World}{E Q:Value→Shared→Prop}{a:Txt}{n:Nat}{t u:Tok}(h:a.length*n≤Az)(hn:n≤Az)(hq:∀t' k,Q (.str ⟨(rep a n).toArray⟩ t') {s with toks:=k}):wpAny (model prog w) A (binaryOp .Mult (.str ⟨a.toArray⟩ t) (.int (.ofNat n) u)) Q E s:=by
 refine SB.mul ?_ fun t' k=>?_
 ·have hl:=BO
  have e:(⟨a.toArray⟩:Str).length=a.length:=Bh a
  have en:(Int.ofNat n)=(n:Int):=rfl
  refine⟨?_,?_,?_⟩
  ·rw[jS]
   exact⟨zJ (by rw[en];lia),zJ (by rw[en];lia)⟩
  ·intro h1 _
   rw[e,en]
   rw[en]at h1
   have:(a.length:Int)≤(2 ^ 63 - 1) / (n:Int):=by
    rw[Int.le_ediv_iff_mul_le (by lia)]
    have:((a.length*n:Nat):Int)≤(Az:Int):=by exact_mod_cast h
    rw[Int.natCast_mul]at this
    lia
   lia
  ·intro _ _
   rw[e]
   show decide (a.length*n >sizeLine)=false
   rw[←A8]
   exact zJ (by lia)
 ·rw[TZ]
  exact hq _ _
theorem Yk(r:Al c f R σ s.heap){a:Txt}{n:Nat}{t u:Tok}(h:a.length*n≤Az)(hn:n≤Az):AL c f A R σ s (binaryOp .Mult (.str ⟨a.toArray⟩ t) (.int (.ofNat n) u)) (.str (rep a n)):=
 AL.plain r fun E Q hq=>XJ h hn fun _ _=>hq _ _ (.str _ _ (by rw[N4];exact h))
theorem XI{prog:Program}{w:World}{E Q:Value→Shared→Prop}{a:Txt}{n:Nat}{t u:Tok}(hn:n≤Az)(hq:∀t' k,Q (.str ⟨([]:Txt).toArray⟩ t') {s with toks:=k}):wpAny (model prog w) A (binaryOp .Mult (.str ⟨a.toArray⟩ t) (.int (.negSucc n) u)) Q E s:=by
 refine SB.mul ?_ fun t' k=>?_
 ·have hl:=BO
  have en:=qd n
  have h1:(Int.negSucc n) < 1:=by rw[en];lia
  refine⟨?_,fun h=>absurd h1 h,fun h=>absurd h1 h⟩
  rw[jS]
  exact⟨zJ (by rw[en];lia),zJ (by rw[en];lia)⟩
 ·have:Txt.mul ⟨a.toArray⟩ (Int.negSucc n)=⟨([]:Txt).toArray⟩:=by
   unfold Txt.mul
   rw[zX (by rw[qd];lia)]
   rfl
  rw[this]
  exact hq _ _
theorem Yj(r:Al c f R σ s.heap){a:Txt}{n:Nat}{t u:Tok}(hn:n≤Az):AL c f A R σ s (binaryOp .Mult (.str ⟨a.toArray⟩ t) (.int (.negSucc n) u)) (.str []):=
 AL.plain r fun E Q hq=>XI hn fun _ _=>hq _ _ (.str _ _ (by simp))
theorem d9(hh:A.handled=none)(r:Al c f R σ s.heap){xs:List Val}{rv:Value}{k:Int}(hx:VH c R s.heap (.seq false xs) rv)(h:sumOf xs=some k):AL c f A R σ s (call (.builtin "sum") [rv]) (.int k):=by
 refine AL.kept r fun E Q m led r0 hq=>?_
 refine AR (hx.seq r0) fun a vs n hq3 hg hl hs=>?_;subst hq3
 refine Ab (TA hs h) fun ns hi hk=>?_
 refine LSm.sum_ints r0.F r0.N hh (AF hg) hi fun h' tk t' F N=>?_
 rw[hk]
 exact hq _ h' tk F N (.int _ _)
theorem Ut(r:Al c f R σ s.heap){xs:List Val}{rv:Value}(hx:VH c R s.heap (.seq false xs) rv):AL c f A R σ s (call (.type "tuple") [rv]) (.seq true xs):=by
 refine AL.made r fun E Q m led r0 hq=>?_
 refine AR (hx.seq r0) fun a vs n hq3 hg hl hs=>?_;subst hq3
 refine call_tuple_list (AF hg) (fun h' hk=>?_) (by rw[zY,hs.length,←A8];exact hl)
 have F':Fr f.h₀ f.L h' m:=by
  refine DE r0.F.ns fun oL a1 a2 hL a3=>?_
  exact⟨⟨oL,a1,a2,hk _ _ hL,a3⟩,fun b o' e=>hk _ _ (r0.F.keep b o' e),r0.F.above⟩
 have N':News f.h₀ f.L h' led:=r0.N.grown hk
 refine hq _ _ _ _ s.toks (F'.push _) (JZ F' N' (seqObj true vs 0)) (fun p hp=>jv (N' p hp).1) fun R' le hz=>?_
 exact .seq (.of (.inr hz)) hl (Vs.up le hs)
theorem O5(r:Al c f R σ s.heap){a:Txt}{o:Nat}{x z:Txt}{t u v:Tok}(hl:a.length≤Az)(hz:z.length≤x.length+1)(hne:Bt (o::x) z=false)(hu:u≠0)(hv:v≠0)(huv:u≠v)(hsz:a.length+(a.length+1)*z.length≤Az):
  AL c f A R σ s (call (.builtin "str.replace") [.str ⟨a.toArray⟩ t,.str ⟨(o::x).toArray⟩ u,.str ⟨z.toArray⟩ v]) (.str (AA (o::x) z 0 a)):=by
 refine AL.plain r fun E Q hq=>?_
 have hrl:=Ea (o::x) z (by simp) (by simpa using hz) a 0
 simp only[JP,JB]at hrl
 have hocc:=T9 a (o::x)
 have eo:(⟨(o::x).toArray⟩:Str).length=x.length+1:=Bh _
 refine call_gives F.slot_str_replace (Jr _ _ _) F.entry_str_replace (F.args_str_replace_3 _ _ _) (gives_str_replace _ _ _ _ _ _ fun _=>⟨by simp[hu,hv],by simp[huv],by rw[CP];exact hne,?_⟩) ?_
 ·rw[hocc,Bh,Bh]
  have h1:=Et (o::x) a (a.length+1) 0 0
  have h2:=Nat.mul_le_mul_right z.length h1
  unfold tooLong
  rw[←A8]
  exact zJ (by lia)
 ·rw[hocc]
  cases hc:((BP (o::x) a 0 (a.length+1) 0).isEmpty || ((⟨(o::x).toArray⟩:Str).length==0 && (⟨z.toArray⟩:Str).length==0))with
  |true=>
   rw[zX rfl]
   have hemp:BP (o::x) a 0 (a.length+1) 0=[]:=by
    rw[eo]at hc
    simpa using hc
   have:=RZ a z o x hemp
   show Q _ _
   have hq':=hq (.str ⟨a.toArray⟩ t) s.toks (by rw[this];exact .str _ _ hl)
   exact hq'
  |false=>
   rw[zP (by simp),eo,show x.length+1=(o::x).length from rfl,Uv a z o x]
   exact⟨by rw[Bh,←A8];exact zl hrl hl,hq _ _ (.str _ _ (zl hrl hl))⟩
theorem OV:typeLookup (.type "re.Match") "__bool__"=pure none:=rfl
theorem Ra:typeLookup (.type "re.Match") "__len__"=pure none:=rfl
section
variable {b:Bool}{Q:Bool→Shared→Prop}
theorem SD{tup:Bool}{xs:List Val}{a:Addr}{vs:List Value}{n:Nat}(hg:DL s.heap a tup vs n)(hl:vs.length≤Az)(he:vs.length=xs.length)(h:truth (.seq tup xs)=some b)(hq:∀tk,s.toks≤tk→Q b {s with toks:=tk}):wpAny (model c.prog c.w) A (truthy (.ref a)) Q E s:=by
 have hL:=BO
 have hb:((vs.toArray.size:Nat):Int) < 2 ^ 63:=by rw[zY];lia
 have e:(!vs.toArray.isEmpty)=b:=by
  induction xs using zi with
  |nil=>rw[Jj he,←ze h];rfl
  |cons _ _=>induction vs using zi with
   |nil=>exact nomatch he
   |cons _ _=>exact ze h
 induction tup using za with
 |true=>exact truthy_tuple (Dk hg) hb (by rw[e];exact hq _ (by lia))
 |false=>exact wpAny_truthy_list (AF hg) hb (by rw[e];exact hq _ (by lia))
theorem Y5{i:Int}{t:Tok}(hq:Q (!(IT i 0)) s):wpAny (model c.prog c.w) A (truthy (.int i t)) Q E s:=by
 refine PyProof.Rows.truthy_int ?_
 rw[GN]at hq
 exact hq
theorem Y6{t:Txt}{tk:Tok}(hl:t.length≤Az)(h:truth (.str t)=some b)(hq:∀tk,s.toks≤tk→Q b {s with toks:=tk}):wpAny (model c.prog c.w) A (truthy (.str ⟨t.toArray⟩ tk)) Q E s:=by
 have hL:=BO
 refine P.truthy_str (by rw[Bh];lia) ?_
 rw[Bh]
 have:=hq (s.toks+1+1) (by lia)
 induction t using zi with
 |nil=>rw[←ze h]at this;exact this
 |cons u r=>
  rw[←ze h]at this
  rw[show((((u::r).length:Nat):Int) !=0)=true from J5.mpr (Int.ofNat_ne_zero.mpr (jO _))]
  exact this
theorem eP{a:Addr}{st pat:Value}{p l i:Int}{tp:Addr}(h:s.heap.get? a=some (DF st pat p l i tp))(hq:Q true s):wpAny (model c.prog c.w) A (truthy (.ref a)) Q E s:=by
 have hT:s.TypeIs (.ref a) "re.Match":=⟨_,h,rfl⟩
 unfold truthy
 refine zn (wpAny_callSpecial?_none hT OV ?_)
 exact zn (wpAny_specialOf hT Ra (zG hq))
theorem Pg(r:Al c f R σ s.heap){x:Val}{rv:Value}(hx:VH c R s.heap x rv)(h:truth x=some b)(hq:∀s',Ar s s'→Al c f R σ s'.heap→Q b s'):wpAny (model c.prog c.w) A (truthy rv) Q E s:=by
 have hq':∀tk,s.toks≤tk→Q b {s with toks:=tk}:=fun tk ht=>hq _ (An ht) r
 have q0:Q b s:=hq' s.toks (zw _)
 refine Aq r fun m led r0=>?_
 induction hx using VH.casesOn with
 |own ho hl hs=>exact SD (.of ho) (by rw[hs.length];exact hl) hs.length h hq'
 |of y=>
  refine VR.casesOn (motive_1:=fun x rv _=>truth x=some b→wpAny (model c.prog c.w) A (truthy rv) Q E s) y ?_ ?_ ?_ ?_ ?_ ?_ ?_ h
  ·exact fun h=>PyProof.Rows.truthy_none (by rw[←ze h]at q0;exact q0)
  ·exact fun _ h=>wpAny_truthy_bool (by rw[←ze h]at q0;exact q0)
  ·exact fun i t h=>Y5 (by rw[←ze h]at q0;exact q0)
  ·exact fun t tk hl h=>Y6 hl h hq'
  ·exact fun h hl hs h'=>SD (r0.Z5 h) (by rw[hs.length];exact hl) hs.length h' hq'
  ·exact fun _ _ h=>nomatch h
  ·exact fun h _ h'=>eP (r0.get h) (by rw[←ze h']at q0;exact q0)
end
end
end
end Ak
section
open PySem PySem.W PySem.Calls PyProof.Rows
namespace Ak
section
noncomputable def Ta:Option (Addr×Addr)→Option Addr
 |some (_,dx)=>some dx
 |none=>none
noncomputable def Tn(R:Rec)(sd:Option (Addr×Addr))(p:Addr×Obj):Bool:= !(R.ρ.contains p.1) && !(decide (Ta sd=some p.1)) && !((R.zs.map (·.1)).contains p.1)
noncomputable def Rec.call(R:Rec)(led:List (Addr×Obj))(sd:Option (Addr×Addr)):Rec:=⟨R.ρ,[],R.zs,led.filter (Tn R sd),sd⟩
theorem EW{R:Rec}{sd:Option (Addr×Addr)}{p:Addr×Obj}:Tn R sd p=true↔p.1∉R.ρ∧Ta sd≠some p.1∧p.1∉R.zs.map (·.1):=by
 unfold Tn
 simp only[jp,JC,jG,decide_eq_false_iff_not]
 exact⟨fun h=>⟨h.1.1,h.1.2,h.2⟩,fun h=>⟨⟨h.1,h.2.1⟩,h.2.2⟩⟩
section
variable {c:Cx}{f f':Fx}{R R':Rec}{σ σ':St}{h h₁ h':Heap}{m m':Str→Option Value}{led led' cells:List (Addr×Obj)}{sd:Option (Addr×Addr)}{loc':List (Option LV)}{self':List (Option LV)}{heap':List Cell}
theorem Aj.same{R R':Rec}(hz:∀v rv,LR c R v rv→LR c R' v rv){fs:List (Option LV)}{es:List DictEntry}(x:Aj c R fs es):Aj c R' fs es:=by
 refine M9 x fun a b d e=>?_
 refine⟨fun k n hk=>?_,b,d,e⟩
 have:=a k n hk
 revert this
 induction Ax fs k using zh with
 |none=>exact id
 |some v=>rintro⟨rv,a1,a2⟩;exact⟨rv,a1,hz _ _ a2⟩
theorem Km:∀{fs:List (Option Val)} {k:Nat} {v:LV},Ax (BD fs) k=some v→∃x,v=.v x
 |[],k,v,h=>by induction k using zE <;>cases h
 |none::r,0,v,h=>by cases h
 |some x::r,0,v,h=>by cases h;exact⟨x,rfl⟩
 |none::r,k+1,v,h=>Km (fs:=r) h
 |some x::r,k+1,v,h=>Km (fs:=r) h
theorem Aj.BD{R R':Rec}(hz:∀x rv,c.V R x rv→c.V R' x rv){fs:List (Option Val)}{es:List DictEntry}(y:Aj c R (BD fs) es):Aj c R' (BD fs) es:=by
 refine M9 y fun a b d e=>?_
 refine⟨fun k n hk=>?_,b,d,e⟩
 have:=a k n hk
 revert this
 induction q:Ax (Ak.BD fs) k using zh with
 |none=>exact id
 |some v=>
  rintro⟨rv,a1,a2⟩
  refine zg (Km q) fun x hq1=>?_;subst hq1
  cases a2 with |v a2=>exact⟨rv,a1,.v (hz _ _ a2)⟩
theorem Rel.enter(r:Rel c f R σ h m led)(F:Fr f'.h₀ f'.L h₁ m')(N:News f'.h₀ f'.L h₁ (cells++led))(hck:cells.map (·.1)=f'.cl.map (·.2))(hcn:(cells.map (·.1)).Nodup)
  (hlt:∀p∈led,∀q∈cells,p.1 < q.1) (B:c.B0.StaysIn f'.h₀)
  (hslots:∀(k:Nat) (n:Str) (v:LV),f'.names[k]? =some n→Ax loc' k=some v→match f'.cs.names.lookup n with
   |some .local=>∃rv,m' n=some rv∧LR c (R.call led sd) v rv
   |some _=>∃a o rv,f'.cl.lookup n=some a∧(a,o)∈cells++led∧o.data=.cell (some rv)∧LR c (R.call led sd) v rv
   |none=>False)
  (hclo:∀n a,f'.cl.lookup n=some a→∃o v,(a,o)∈cells++led∧o.data=.cell v)
  (hself:∀x dx,sd=some (x,dx)→m' c.self=some (.ref x)∧c.Z R x (instObj c.PC dx)∧∃es n,(dx,dictOf es n)∈led∧Aj c (R.call led sd) self' es)
  (hself0:sd=none→self'=[])
  (hh:∀(j:Nat) (fs:List (Option Val)),heap'[j]? =some (Ak.Cell.flds fs)→σ.heap[j]? =some (Ak.Cell.flds fs)∧∀x dx,sd=some (x,dx)→R.ρ[j]? ≠some dx)
  (hlen:heap'.length=σ.heap.length) (hdx:∀x dx,sd=some (x,dx)→R.sd=some (x,dx)∨dx∈R.ρ):
  Rel c f' (R.call led sd) ⟨loc',[],self',heap'⟩ h₁ m' (cells++led):=by
 have dxm:∀x dx,sd=some (x,dx)→Hr f R dx:=fun x dx e=>by
  rcases hdx x dx e with e' |e'
  ·exact .inr (.inr (.inr ⟨x,e'⟩))
  ·exact .inl e'
 have celln:∀a,a∈f'.cl.map (·.2)→∀p∈led,p.1≠a:=fun a ha p hp e=>by
  rw[←hck]at ha
  refine Ab (zK.mp ha) fun q hq e'=>?_
  have:=hlt p hp q hq
  rw[e,←e']at this
  exact Jm _ this
 have exm:∀p∈(R.call led sd).ex,p∈led:=fun p hp=>(jf.mp hp).1
 refine{F:=F,N:=N,nd:=?_,slots:=hslots,clo:=hclo,self:=fun x dx e=>?_,self0:=hself0,ml:=fun a ha=>?_,hlen:=r.hlen.trans hlen.symm,cells:=fun j fs hj=>?_,oln:=rfl,owns:=fun k xs hk=>?_,zs:=fun p hp=>zj _ (r.zs p hp),ex:=fun p hp=>zj _ (exm p hp),D1:=?_,D2:=fun x dx e=>?_,D3:=fun a ha p hp=>?_,D4:=fun p hp q hq e=>?_,B:=B}
 ·rw[jm,z8]
  refine⟨hcn,r.nd,fun a ha b hb e=>?_⟩
  refine Ab (zK.mp ha) fun q hq hq2=>?_;subst hq2
  refine Ab (zK.mp hb) fun p hp hq2=>?_;subst hq2
  exact absurd (hlt p hp q hq) (by rw[e];exact Jm _)
 ·obtain⟨a1,a2,es,n,a3,a4⟩:=hself x dx e
  exact⟨a1,a2,es,n,zj _ a3,a4⟩
 ·rw[jm]
  rcases ha with ha |ha |ha |⟨x,ha⟩
  ·exact zj _ (r.ml a (.inl ha))
  ·cases ha
  ·exact zr _ (hck▸ha)
  ·exact zj _ (r.ml a (dxm x a ha))
 ·refine CS (r.cells j fs (hh j fs hj).1) fun a es n a1 a2 a3=>?_
  exact⟨a,es,n,a1,zj _ a2,Aj.BD (R:=R) (R':=R.call led sd) (fun _ _ y=>y) a3⟩
 ·cases hk
 ·show(R.ρ++[]++List.map (fun p:Str×Addr=>p.2) f'.cl).Nodup
  rw[zL,z8]
  refine⟨GB r.D1,hck▸hcn,fun a ha b hb e=>?_⟩
  refine Ab (zK.mp (r.ml a (.inl ha))) fun p hp e'=>?_
  exact celln b hb p hp (e'.trans e)
 ·refine⟨by simp[Rec.call],fun hb=>?_,fun j fs hj=>(hh j fs hj).2 x dx e⟩
  refine Ab (zK.mp (r.ml dx (dxm x dx e))) fun p hp e'=>?_
  exact celln dx hb p hp e'
 ·rcases zF.mp hp with hp |hp
  ·rcases ha with ha |ha |ha |⟨x,ha⟩
   ·exact r.D3 a (.inl ha) p (zr _ hp)
   ·cases ha
   ·exact celln a ha p (r.zs p hp)
   ·exact r.D3 a (dxm x a ha) p (zr _ hp)
  ·have hx:=EW.mp (jf.mp hp).2
   rcases ha with ha |ha |ha |⟨x,ha⟩
   ·exact fun e=>hx.1 (e▸ha)
   ·cases ha
   ·exact celln a ha p (exm p hp)
   ·have ha':sd=some (x,a):=ha
    rw[ha']at hx
    exact fun e=>hx.2.1 (by rw[e];rfl)
 ·have hx:=EW.mp (jf.mp hq).2
  exact hx.2.2 (e▸zK.mpr ⟨p,hp,rfl⟩)
noncomputable def CO(R R':Rec)(led':List (Addr×Obj)):Rec:=⟨R'.ρ,R.ω,R'.zs++led'.filter (fun p=>R'.ω.contains p.1),R.ex,R.sd⟩
set_option tactic.hygienic true in
theorem FH(r':RelL c f' R' σ' m' led'){l:LV}{x:Val}{rv:Value}(hl:look σ'.own l=some x)(y:LR c R' l rv):c.V (CO R R' led') x rv:=by
 have up:∀{x v},c.V R' x v→c.V (CO R R' led') x v:=fun y=>VR.mono (fun a o z=>z.imp id fun z=>zr _ z) ⟨[],by simp[CO]⟩ y
 have ups:∀{x v},c.Vs R' x v→c.Vs (CO R R' led') x v:=fun y=>Bv.mono (fun a o z=>z.imp id fun z=>zr _ z) ⟨[],by simp[CO]⟩ y
 induction y using LR.casesOn with
 |v y=>cases hl;exact up y
 |loc e=>
  rename_i k a
  simp only[look]at hl
  induction ho:CW σ'.own k using zh with
  |none=>rw[ho]at hl;cases hl
  |some xs=>
   rw[ho]at hl;cases hl
   refine AR (r'.owns k xs ho) fun b vs n a1 a2 a3 a4=>?_
   rw[e]at a1;cases a1
   refine .seq (.of (.inr (zj _ (jf.mpr ⟨a2,?_⟩)))) a3 (ups a4)
   rw[jG];exact js (Av e)
 |app _ _=>cases hl
 |fn _=>cases hl
theorem lx{o:List (List Val)}{r:List (Option LV)}{l:List (Option Val)}(h:fz o (none::r)=some l):∃l',fz o r=some l'∧l=none::l':=by
 have h:(match fz o r with |some l=>some (none::l) |none=>none)=some l:=h
 induction q:fz o r using zh with
 |none=>rw[q]at h;exact nomatch h
 |some l'=>rw[q]at h;exact⟨l',rfl,(ze h).symm⟩
theorem ly{o:List (List Val)}{x:LV}{r:List (Option LV)}{l:List (Option Val)}(h:fz o (some x::r)=some l):∃y l',look o x=some y∧fz o r=some l'∧l=some y::l':=by
 have h:(match look o x,fz o r with |some y,some l=>some (some y::l) |_,_=>none)=some l:=h
 induction q0:look o x using zh with
 |none=>rw[q0]at h;exact nomatch h
 |some y=>induction q:fz o r using zh with
  |none=>rw[q0,q]at h;exact nomatch h
  |some l'=>rw[q0,q]at h;exact⟨y,l',rfl,rfl,(ze h).symm⟩
theorem Mx{o:List (List Val)}{fs:List (Option LV)}:∀{fs':List (Option Val)},fz o fs=some fs'→(cnt (BD fs')=cnt fs∧fs'.length=fs.length)∧∀k,match Ax fs k with
  |some l=>∃x,look o l=some x∧Ax (BD fs') k=some (.v x)
  |none=>Ax (BD fs') k=none:=by
 induction fs with
 |nil=>intro fs' h;rw[←ze h];exact⟨⟨rfl,rfl⟩,fun k=>by induction k using zE <;>rfl⟩
 |cons x r ih=>
  intro fs' h
  induction x using zh with
  |none=>
   refine Ab (lx h) fun l q e=>?_
   have p:=ih q
   rw[e]
   refine⟨⟨p.1.1,zB (· +1) p.1.2⟩,fun k=>?_⟩
   induction k using zE with
   |zero=>rfl
   |succ k=>exact p.2 k
  |some x=>
   refine Ba (ly h) fun y l q0 q e=>?_
   have p:=ih q
   rw[e]
   refine⟨⟨zB (· +1) p.1.1,zB (· +1) p.1.2⟩,fun k=>?_⟩
   induction k using zE with
   |zero=>exact⟨y,q0,rfl⟩
   |succ k=>exact p.2 k
theorem C7(r':RelL c f' R' σ' m' led'){fs:List (Option LV)}{fs':List (Option Val)}{es:List DictEntry}(hf:fz σ'.own fs=some fs')(y:Aj c R' fs es):Aj c (CO R R' led') (BD fs') es:=by
 refine M9 y fun a b d e=>?_
 refine Ao (Mx hf) fun l1 l2=>?_
 refine⟨fun k n hk=>?_,b,by rw[l1.1];exact d,by rw[MF,l1.2,e]⟩
 have h1:=a k n hk
 have h2:=l2 k
 revert h1 h2
 induction Ax fs k using zh with
 |none=>intro h1 h2;rw[h2];exact h1
 |some v=>
  intro h1 h2
  refine Ab h1 fun rv h1 h1'=>Ab h2 fun x h2 h2'=>?_
  rw[h2']
  exact⟨rv,h1,.v (FH r' h2 h1')⟩
theorem RelL.at_{h:Heap}(r:RelL c f R σ m led)(F:Fr f.h₀ f.L h m)(N:News f.h₀ f.L h led):Rel c f R σ h m led:={r with F:=F,N:=N}
theorem RelL.leave(r:RelL c f R σ m led)(le:(R.call led sd).le R')(r':RelL c f' R' σ' m' led')
  (hdx:∀x dx,sd=some (x,dx)→R.sd=some (x,dx)∨(R.sd=none∧dx∈R.ρ))
  (hsame:R.sd≠none→sd=R.sd)
  {fsl:List (Option LV)} (ND:∀x dx es n,R.sd=some (x,dx)→(dx,dictOf es n)∈led'→Aj c R' σ'.self es→Aj c (CO R R' led') fsl es) (hfs0:R.sd=none→fsl=[])
  {hp:List Cell} (hhp:hp.length=σ'.heap.length) (hhc:∀(j:Nat) (fs:List (Option Val)),hp[j]? =some (Ak.Cell.flds fs)→σ'.heap[j]? =some (Ak.Cell.flds fs)∨∃a es n,R'.ρ[j]? =some a∧(a,dictOf es n)∈led'∧Aj c (CO R R' led') (BD fs) es∧R.sd=none):
  RelL c f (CO R R' led') ⟨σ.loc,σ.own,fsl,hp⟩ m led'∧R.le (CO R R' led'):=by
 have le':R.le (CO R R' led'):=⟨le.ρ,⟨[],by simp[CO]⟩,fun p hp=>zr _ (le.zs p hp),rfl,rfl⟩
 have eex:R'.ex=led.filter (Tn R sd):=le.ex
 have esd:R'.sd=sd:=le.sd
 have toEx:∀p∈led,p.1∉R.ρ→Ta sd≠some p.1→p.1∉R.zs.map (·.1)→p∈R'.ex:=fun p hp h1 h2 h3=>by
  rw[eex];exact jf.mpr ⟨hp,EW.mpr ⟨h1,h2,h3⟩⟩
 have dxne:∀a,a∈R.ω∨a∈f.cl.map (·.2)→a∉R.ρ∧Ta sd≠some a∧a∉R.zs.map (·.1):=fun a ha=>by
  have hM:Hr f R a:=by rcases ha with ha |ha;exact .inr (.inl ha);exact .inr (.inr (.inl ha))
  have hρ:a∉R.ρ:=fun hb=>by
   rcases ha with ha |ha
   ·exact Gx r.D1 hb ha rfl
   ·exact GC r.D1 hb ha rfl
  refine⟨hρ,fun e=>?_,fun hb=>?_⟩
  ·induction hs:sd using zh with
   |none=>rw[hs]at e;cases e
   |some p=>
    obtain⟨x,dx⟩:=p
    rw[hs]at e;cases e
    rcases hdx x a hs with e' |⟨_,e'⟩
    ·refine Bi (r.D2 x a e') fun d1 d2 _=>?_
     rcases ha with ha |ha
     ·exact d1 ha
     ·exact d2 ha
    ·exact hρ e'
  ·refine Ab (zK.mp hb) fun p hp e=>?_
   exact r.D3 a hM p (zr _ hp) e
 have keep:∀p∈led,(p.1∈R.ω∨p.1∈f.cl.map (·.2))→p∈R'.ex:=fun p hp ha=>by
  refine Bi (dxne p.1 ha) fun a1 a2 a3=>?_
  exact toEx p hp a1 a2 a3
 have keepEx:∀p∈R.ex,p∈R'.ex:=fun p hp=>by
  refine toEx p (r.ex p hp) (fun hb=>r.D3 p.1 (.inl hb) p (zj _ hp) rfl) (fun e=>?_) (fun hb=>?_)
  ·induction hs:sd using zh with
   |none=>rw[hs]at e;cases e
   |some q=>
    obtain⟨x,dx⟩:=q
    rw[hs]at e;cases e
    refine r.D3 p.1 ?_ p (zj _ hp) rfl
    rcases hdx x p.1 hs with e' |⟨_,e'⟩
    ·exact .inr (.inr (.inr ⟨x,e'⟩))
    ·exact .inl e'
  ·refine Ab (zK.mp hb) fun q hq e=>?_
   exact r.D4 q hq p hp e
 have inEx:∀a,a∈R.ω∨a∈f.cl.map (·.2)→∃q∈R'.ex,q.1=a:=fun a ha=>by
  have hM:Hr f R a:=by rcases ha with ha |ha;exact .inr (.inl ha);exact .inr (.inr (.inl ha))
  refine Ab (zK.mp (r.ml a hM)) fun p hp e=>?_
  exact⟨p,keep p hp (by rw[e];exact ha),e⟩
 have upz:∀{a o},c.Z R' a o→c.Z (CO R R' led') a o:=fun z=>z.imp id fun z=>zr _ z
 refine⟨?_,le'⟩
 refine{nd:=r'.nd,slots:=fun k n v hk hv=>?_,clo:=fun n a ha=>?_,self:=fun x dx e=>?_,self0:=hfs0,ml:=fun a ha=>?_,hlen:=r'.hlen.trans hhp.symm,cells:=fun j fs hj=>?_,oln:=r.oln,owns:=fun k xs hk=>?_,zs:=fun p hp=>?_,ex:=fun p hp=>r'.ex p (keepEx p hp),D1:=?_,D2:=fun x dx e=>?_,D3:=fun a ha p hp=>?_,D4:=fun p hp q hq=>?_,B:=r.B}
 ·exact Cz (fun a o a1 a2=>r'.ex _ (keep _ a2 (.inr (lookup_mem a1)))) (fun _ b=>b.up le') (r.slots k n v hk hv)
 ·refine A6 (r.clo n a ha) fun o v a1 a2=>?_
  exact⟨o,v,r'.ex _ (keep _ a1 (.inr (lookup_mem ha))),a2⟩
 ·have e':R.sd=some (x,dx):=e
  have hs:sd=some (x,dx):=(hsame (by rw[e'];simp)).trans e'
  refine Bi (r.self x dx e') fun a1 a2 _=>?_
  obtain⟨_,_,es,n,b3,b4⟩:=r'.self x dx (esd.trans hs)
  exact⟨a1,Cx.Z.mono le' _ _ a2,es,n,b3,ND x dx es n e' b3 b4⟩
 ·rcases ha with ha |ha |ha |⟨x,ha⟩
  ·exact r'.ml a (.inl ha)
  ·refine Ab (inEx a (.inl ha)) fun q hq e=>?_
   exact zK.mpr ⟨q,r'.ex q hq,e⟩
  ·refine Ab (inEx a (.inr ha)) fun q hq e=>?_
   exact zK.mpr ⟨q,r'.ex q hq,e⟩
  ·have e':R.sd=some (x,a):=ha
   exact r'.ml a (.inr (.inr (.inr ⟨x,esd.trans ((hsame (by rw[e'];simp)).trans e')⟩)))
 ·rcases hhc j fs hj with h1 |⟨a,es,n,a1,a2,a3,_⟩
  ·refine CS (r'.cells j fs h1) fun a es n a1 a2 a3=>?_
   exact⟨a,es,n,a1,a2,a3.BD fun _ _ y=>VR.mono (fun _ _ z=>upz z) ⟨[],by simp[CO]⟩ y⟩
  ·exact⟨a,es,n,a1,a2,a3⟩
 ·refine AR (r.owns k xs hk) fun a vs n a1 a2 a3 a4=>?_
  exact⟨a,vs,n,a1,r'.ex _ (keep _ a2 (.inl (Av a1))),a3,Vs.up le' a4⟩
 ·rcases zF.mp hp with hp |hp
  ·exact r'.zs p hp
  ·exact(jf.mp hp).1
 ·show(R'.ρ++R.ω++List.map (fun p:Str×Addr=>p.2) f.cl).Nodup
  rw[zk,z8]
  have D:=r.D1
  rw[zk,z8]at D
  refine⟨GB r'.D1,D.2.1,fun a ha b hb e=>?_⟩
  refine Ab (inEx b (zF.mp hb)) fun q hq e'=>?_
  exact r'.D3 a (.inl ha) q (zj _ hq) (e'.trans e.symm)
 ·have e':R.sd=some (x,dx):=e
  have hs:sd=some (x,dx):=(hsame (by rw[e'];simp)).trans e'
  refine Bi (r.D2 x dx e') fun d1 d2 _=>?_
  refine⟨d1,d2,fun j fs hj=>?_⟩
  rcases hhc j fs hj with h1 |⟨_,_,_,_,_,_,h0⟩
  ·exact(r'.D2 x dx (esd.trans hs)).2.2 j fs h1
  ·rw[e']at h0;cases h0
 ·rcases zF.mp hp with hp |hp
  ·rcases zF.mp hp with hp |hp
   ·rcases ha with ha |ha |ha |⟨x,ha⟩
    ·exact r'.D3 a (.inl ha) p (zr _ hp)
    ·refine Ab (inEx a (.inl ha)) fun q hq e=>?_
     exact e▸r'.D4 p hp q hq
    ·refine Ab (inEx a (.inr ha)) fun q hq e=>?_
     exact e▸r'.D4 p hp q hq
    ·have e':R.sd=some (x,a):=ha
     exact r'.D3 a (.inr (.inr (.inr ⟨x,esd.trans ((hsame (by rw[e'];simp)).trans e')⟩))) p (zr _ hp)
   ·have hω:p.1∈R'.ω:=by
     have:=(jf.mp hp).2
     rw[jG]at this
     exact z7 this
    rcases ha with ha |ha |ha |⟨x,ha⟩
    ·exact fun e=>Gx r'.D1 ha hω e.symm
    ·refine Ab (inEx a (.inl ha)) fun q hq e=>?_
     exact fun e'=>r'.D3 p.1 (.inr (.inl hω)) q (zj _ hq) (e.trans e'.symm)
    ·refine Ab (inEx a (.inr ha)) fun q hq e=>?_
     exact fun e'=>r'.D3 p.1 (.inr (.inl hω)) q (zj _ hq) (e.trans e'.symm)
    ·have e':R.sd=some (x,a):=ha
     have hs:=esd.trans ((hsame (by rw[e'];simp)).trans e')
     exact fun e=>(r'.D2 x a hs).1 (e▸hω)
  ·intro e
   rcases ha with ha |ha |ha |⟨x,ha⟩
   ·exact r'.D3 a (.inl ha) p (zj _ (keepEx p hp)) e
   ·exact r.D3 a (.inr (.inl ha)) p (zj _ hp) e
   ·exact r.D3 a (.inr (.inr (.inl ha))) p (zj _ hp) e
   ·exact r.D3 a (.inr (.inr (.inr ⟨x,ha⟩))) p (zj _ hp) e
 ·rcases zF.mp hp with hp |hp
  ·exact r'.D4 p hp q (keepEx q hq)
  ·have hω:p.1∈R'.ω:=by
    have:=(jf.mp hp).2
    rw[jG]at this
    exact z7 this
   exact fun e=>r'.D3 p.1 (.inr (.inl hω)) q (zj _ (keepEx q hq)) e.symm
end
end
section
structure En where
 name:Str
 qual:Str
 params:Arguments
 body:List Stmt
 scope:Scope
 Ah:Bool
 pargs:List Str
 locs:List Str
noncomputable def En.AI(D:En)(self:Str):List Str:=match D.Ah with |true=>self::D.pargs |false=>D.pargs
noncomputable def En.names(D:En):List Str:=D.pargs++D.locs
structure FnAt(c:Cx)(k:Nat)(D:En)(a:Addr)(cdv:Value):Prop where
 fad:c.fad[k]? =some a
 at_:∃dV kV doc pm an ct oc od osl,c.K.lookup a=some ⟨oc,od,.func (fnX D.name D.qual D.params D.body D.scope [] dV kV doc pm an cdv ct),osl⟩∧
  ∀args:List Value,args.length=(D.AI c.self).length→bindArgs (fnX D.name D.qual D.params D.body D.scope [] dV kV doc pm an cdv ct) ⟨args,[]⟩=pure ((D.AI c.self).zip args)
 code:codeIn c.K cdv D.qual=true
 keep:keepIn c.K (.ref a)=true
 isFn:isFn c.K (.ref a)=true
 kinds:∀n∈D.names,D.scope.names.lookup n=some .local
 skind:D.Ah=true→D.scope.names.lookup c.self=some .local
 nocell:∀x∈D.scope.names,x.2≠ .cell
 co:D.scope.isCoroutine=false
 gen:D.scope.isGenerator=false
 kind:D.scope.kind=.function
 nd:D.names.Nodup
 self:c.self∉D.names
 dbg:∀n∈D.names,(n==("__debug__":Str))=false∧(n==("__classdict__":Str))=false
section
variable {α β:Type}[BEq α]{k:α}{v:β}{l₁ l₂:List (α×β)}
theorem lookup_append_none:l₁.lookup k=none→(l₁++l₂).lookup k=l₂.lookup k:=by
 induction l₁ with
 |nil=>exact fun _=>rfl
 |cons p r ih=>
  intro h
  rw[jg]at h
  rw[jH,jg]
  induction q:k==p.1 using za with
  |true=>rw[q]at h;exact nomatch h
  |false=>rw[q]at h;exact ih h
theorem Ex:l₁.lookup k=some v→(l₁++l₂).lookup k=some v:=by
 induction l₁ with
 |nil=>exact fun h=>nomatch h
 |cons p r ih=>
  intro h
  rw[jg]at h
  rw[jH,jg]
  induction q:k==p.1 using za with
  |true=>rw[q]at h;exact h
  |false=>rw[q]at h;exact ih h
end
theorem GY{β:Type}{k:Str}{l:List (Str×β)}:(∀p∈l,p.1≠k)→l.lookup k=none:=by
 induction l with
 |nil=>exact fun _=>rfl
 |cons p r ih=>
  intro h
  rw[jg,show(k==p.1)=false from jk.mpr fun e=>h p (.head _) e.symm]
  exact ih fun q hq=>h q (.tail _ hq)
theorem Dx{ns:List Str}:∀{vs:List Value} {k:Nat} {n:Str} {v:Value},ns.Nodup→ns[k]? =some n→vs[k]? =some v→((ns.zip vs).reverse).lookup n=some v:=by
 induction ns with
 |nil=>exact fun _ h _=>nomatch (Jq.symm.trans h:none=some _)
 |cons a ns ih=>
  intro vs k n v hn h1 h2
  have hn:=jU.mp hn
  induction vs using zi with
  |nil=>exact nomatch (Jq.symm.trans h2:none=some _)
  |cons b vs=>
   rw[List.zip_cons_cons,List.reverse_cons]
   induction k using zE with
   |zero=>
    have e:a=n:=ze h1
    rw[lookup_append_none (GY fun p hp e'=>hn.1 ((e.trans e'.symm)▸(List.of_mem_zip (b:=p.2) (List.mem_reverse.mp hp)).1)),jg,e,jF]
    exact h2
   |succ k=>exact Ex (ih hn.2 h1 h2)
theorem Fw{α:Type}{n:Nat}:∀{k:Nat},Ax (BK n:List (Option α)) k=none:=by
 induction n with
 |zero=>intro k;induction k using zE <;>rfl
 |succ n ih=>intro k;induction k using zE with
  |zero=>rfl
  |succ k=>exact ih
theorem Io{vs:List Val}{n:Nat}:∀{k:Nat} {v:LV},Ax (start vs n) k=some v→∃x,vs[k]? =some x∧v=.v x:=by
 induction vs with
 |nil=>intro k v h;exact nomatch (Fw.symm.trans (show Ax (BK n) k=some v from by induction n using zE <;>exact h):none=some v)
 |cons x r ih=>
  intro k v h
  induction k using zE with
  |zero=>exact⟨x,rfl,(ze h).symm⟩
  |succ k=>exact ih h
noncomputable def Nd(X:A7→St→Prop):Prop:=∀x σ,¬X x σ
noncomputable def AZ:Option (Addr×Addr)→List Value
 |some (x,_)=>[.ref x]
 |none=>[]
noncomputable def KM(c:Cx)(C:Cfg)(d:Nat)(body:List Stmt)(cn:Str)(cs:Scope)(fa:Addr)(cd:Value)(names:List Str)(Ah:Bool)(ss:Ss):Prop:=
 ∀(f:Fx) (A:Around) (R:Rec) (σ:St) (s:Shared) (m:Str→Option Value) (led:List (Addr×Obj)) (X:A7→St→Prop) (K:Out→St→Prop),f.cn=cn→f.cs=cs→f.fa=fa→f.cd=cd→f.cl=[]→f.names=names→R.sd.isSome=Ah→
  Nb c f A d→Hs c f→(Ah=true→0 < s.toks)→Rel c f R σ s.heap m led→Nd X→Ay C X ss K σ→
  ∀(E:Value→Shared→Prop) (Q:Flow→Shared→Prop),(∀o σ' R' fl s',R.le R'→Ar s s'→K o σ'→Al c f R' σ' s'.heap→(match o,fl with | .next,.next=>True | .ret lv,.ret rv=>LR c R' lv rv | .brk,_=>True | .cont,_=>True |_,_=>False)→Q fl s')→
   wpAny (model c.prog c.w) A (execs body f.env) Q E s
structure Op(A₀ A:Around):Prop where
 h:A.handled=A₀.handled
 f:A.frames=A₀.frames
 g:A.guards=A₀.guards
 d:A.depth≤A₀.depth+4
 u:A.units≤A₀.units+4
theorem Op.refl(A:Around):Op A A:=⟨rfl,rfl,rfl,zA _ _,zA _ _⟩
structure SO(c:Cx)(d:Nat)(f:Fx)(A₀ A:Around)(R:Rec)(σ:St)(s:Shared)(m:Str→Option Value)(led:List (Addr×Obj))(sd:Option (Addr×Addr))(vs:List Val)(rvs:List Value)(fs:List (Option Val))(hp:List Cell)(mt:Bool):Prop where
 G:Nb c f A₀ d
 nr:Op A₀ A
 r:Rel c f R σ s.heap m led
 hvs:c.Vs R vs rvs
 hmeth:sd.isSome=mt
 hself:∀x dx,sd=some (x,dx)→c.Z R x (instObj c.PC dx)∧∃es n,(dx,dictOf es n)∈led∧Aj c (R.call led sd) (BD fs) es
 hself0:sd=none→fs=[]
 hh:∀(j:Nat) (fs':List (Option Val)),hp[j]? =some (Ak.Cell.flds fs')→σ.heap[j]? =some (Ak.Cell.flds fs')∧∀x dx,sd=some (x,dx)→R.ρ[j]? ≠some dx
 hlen:hp.length=σ.heap.length
 hdx:∀x dx,sd=some (x,dx)→R.sd=some (x,dx)∨dx∈R.ρ
noncomputable def SY(c:Cx)(f:Fx)(R:Rec)(s:Shared)(m:Str→Option Value)(led:List (Addr×Obj))(sd:Option (Addr×Addr))(K:Val→List (Option Val)→List Cell→Prop)(Rp:PySem.Result→Shared→Prop):Prop:=
 ∀(r:Val) (fs':List (Option Val)) (h':List Cell) (rv:Value) (s':Shared) (f':Fx) (R':Rec) (σ':St) (m':Str→Option Value) (led':List (Addr×Obj)) (lv:LV),K r fs' h'→Ar s s'→(R.call led sd).le R'→Rel c f' R' σ' s'.heap m' led'→look σ'.own lv=some r→LR c R' lv rv→
  fz σ'.own σ'.self=some fs'→σ'.heap=h'→Fr f.h₀ f.L s'.heap m→News f.h₀ f.L s'.heap led'→Rp (.ok (.ret rv)) s'
noncomputable def A4(c:Cx)(C:Cfg)(d:Nat)(Ah:Nat→Bool):Prop:=
 ∀(k:Nat) (fs:List (Option Val)) (vs:List Val) (hp:List Cell) (K:Val→List (Option Val)→List Cell→Prop) (X:A7→List (Option Val)→List Cell→Prop) (a:Addr),c.fad[k]? =some a→C.call k fs vs hp K X→(∀x fs h,¬X x fs h)→
 ∀(f:Fx) (A₀ A:Around) (R:Rec) (σ:St) (s:Shared) (m:Str→Option Value) (led:List (Addr×Obj)) (sd:Option (Addr×Addr)) (rvs:List Value),SO c d f A₀ A R σ s m led sd vs rvs fs hp (Ah k)→
  ∀Rp,SY c f R s m led sd K Rp→codeAny (model c.prog c.w) A (.call (.ref a) ⟨AZ sd++rvs,[]⟩) Rp s
section
variable {c:Cx}
theorem Nb.call{f:Fx}{A₀ A:Around}{d:Nat}(G:Nb c f A₀ (d+1))(nr:Op A₀ A){f':Fx}{outer:List Env}{base:Heap}(hfr:A.frames=some (f.env::outer))(B:Below A base (f.env::outer) f'.h₀)(hk:f'.cs.kind=.function)
  (st:f.h₀.StaysIn f'.h₀):Nb c f' (A.deeper f'.env) d:=by
 refine zg G.gd fun g hg=>?_
 refine{kind:=hk,hh:=nr.h.trans G.hh,depth:=?_,units:=?_,fr:=⟨f.env::outer,A,base,Around.frames_deeper hfr,B⟩,X:=G.X.keeps st,T:=?_,gd:=⟨g,nr.g.trans hg⟩}
 ·have:=G.depth
  have:=nr.d
  show A.depth+1+8*d+8 < recursionLimit
  lia
 ·have:=G.units
  have:=nr.u
  show A.units+3+24*d+80 < cLine
  lia
 ·refine EG G.T fun p l mean mg mb T=>?_
  exact⟨p,l,mean,mg,mb,T.keeps st⟩
theorem BQ{b:Bool}{p:Prop}(h:Br b p False):b=true∧p:=by
 induction b using za with
 |true=>exact⟨rfl,h⟩
 |false=>exact h.elim
section
variable {D:En}{self:Str}{sd:Option (Addr×Addr)}{rvs:List Value}
theorem N8{m:Bool}(h:sd.isSome=m)(hm:m=false):sd=none:=by
 rw[hm]at h
 induction sd using zh with
 |none=>rfl
 |some p=>exact Bool.noConfusion h
theorem N9{m:Bool}(h:sd.isSome=m)(hm:m=true):∃x d,sd=some (x,d):=by
 rw[hm]at h
 induction sd using zh with
 |none=>exact Bool.noConfusion h
 |some p=>exact⟨p.1,p.2,rfl⟩
theorem FC(hm:D.Ah=true):D.AI self=self::D.pargs:=by unfold En.AI;rw[hm]
theorem NZ(hm:D.Ah=false):D.AI self=D.pargs:=by unfold En.AI;rw[hm]
theorem NV(h:sd.isSome=D.Ah)(hl:rvs.length=D.pargs.length):(AZ sd++rvs).length=(D.AI self).length:=by
 induction hm:D.Ah using za with
 |true=>
  refine Aq (N9 h hm) fun x d e=>?_
  rw[FC hm,e]
  exact zB (· +1) hl
 |false=>rw[NZ hm,N8 h hm];exact hl
theorem NY{c:Cx}{k:Nat}{a:Addr}{cdv:Value}(At:FnAt c k D a cdv):(D.AI c.self).Nodup:=by
 have h1:=(z8.mp At.nd).1
 induction hm:D.Ah using za with
 |true=>rw[FC hm];exact jU.mpr ⟨fun h=>At.self (zr _ h),h1⟩
 |false=>rw[NZ hm];exact h1
theorem NW{c:Cx}{k:Nat}{a:Addr}{cdv:Value}(At:FnAt c k D a cdv):∀n∈D.AI c.self,D.scope.names.lookup n=some .local:=by
 intro n hn
 induction hm:D.Ah using za with
 |true=>
  rw[FC hm]at hn
  rcases z5.mp hn with e |hn
  ·rw[e];exact At.skind hm
  ·exact At.kinds n (zr _ hn)
 |false=>rw[NZ hm]at hn;exact At.kinds n (zr _ hn)
theorem NX{k:Nat}{n:Str}{v:Value}(h:sd.isSome=D.Ah)(nd:(D.AI self).Nodup)(h1:D.pargs[k]? =some n)(h2:rvs[k]? =some v):List.lookup n ((D.AI self).zip (AZ sd++rvs)).reverse=some v:=by
 induction hm:D.Ah using za with
 |true=>
  refine Aq (N9 h hm) fun x d e=>?_
  rw[FC hm]at nd ⊢
  rw[e]
  exact Dx (k:=k+1) nd h1 h2
 |false=>
  rw[NZ hm]at nd ⊢
  rw[N8 h hm]
  exact Dx (k:=k) nd h1 h2
theorem N0{x d:Addr}(h:sd.isSome=D.Ah)(nd:(D.AI self).Nodup)(e:sd=some (x,d)):List.lookup self ((D.AI self).zip (AZ sd++rvs)).reverse=some (.ref x):=by
 rw[e]at h ⊢
 rw[FC h.symm]at nd ⊢
 exact Dx (k:=0) nd rfl rfl
theorem RK{n:Nat}(h:sd.isSome=D.Ah)(hl:(AZ sd++rvs).length=(D.AI self).length)(hm:D.Ah=true):0 < n+((D.AI self).zip (AZ sd++rvs)).length:=by
 rw[List.length_zip,hl,Nat.min_self,FC hm]
 exact jl _
end
section
variable {d:Nat}{f:Fx}{A₀ A:Around}{R:Rec}{σ:St}{s:Shared}{m:Str→Option Value}{led:List (Addr×Obj)}{sd:Option (Addr×Addr)}{vs:List Val}{rvs:List Value}{fs:List (Option Val)}{hp:List Cell}{D:En}{k n:Nat}{a L':Addr}{cdv:Value}{outer:List Env}{base g h₁:Heap}
noncomputable abbrev Fo(D:En)(L' a:Addr)(cdv:Value)(g:Heap):Fx:=⟨D.qual,D.scope,L',a,cdv,[],g,D.names⟩
theorem SO.frame(q:SO c (d+1) f A₀ A R σ s m led sd vs rvs fs hp D.Ah)(At:FnAt c k D a cdv)(har:vs.length=D.pargs.length)(hfr:A.frames=some (f.env::outer))(F:Fr g L' h₁ (fun y=>((D.AI c.self).zip (AZ sd++rvs)).reverse.lookup y))
  (N:News g L' h₁ led) (B':Below A base (f.env::outer) g) (st:f.h₀.StaysIn g):
  Rel c (Fo D L' a cdv g) (R.call led sd) ⟨start vs n,[],BD fs,hp⟩ h₁ (fun y=>((D.AI c.self).zip (AZ sd++rvs)).reverse.lookup y) led∧Nb c (Fo D L' a cdv g) (A.deeper (Fo D L' a cdv g).env) d∧Hs c (Fo D L' a cdv g):=by
 have hrl:=q.hvs.length
 refine⟨?_,q.G.call q.nr hfr B' At.kind st,{nd:=At.nd,self:=At.self,kinds:=fun n hn=>.inl (At.kinds n hn),inj:=(fun _ _ _ h=>nomatch h),dbg:=At.dbg}⟩
 refine q.r.enter (f':=Fo D L' a cdv g) (cells:=[]) F N rfl List.nodup_nil (fun _ _ _ h=>nomatch h) (fun b o e=>st b o (q.r.B b o e)) (fun j n v hn hv=>?_) (fun _ _ h=>nomatch h) (fun x dx e=>?_) (fun e=>by rw[q.hself0 e];rfl) q.hh q.hlen q.hdx
 ·refine Ab (Io hv) fun x hx hq2=>?_;subst hq2
  have hj:j < D.pargs.length:=by
   have:=(zu.mp hx).1
   lia
  have hnj:D.pargs[j]? =some n:=by
   have:(D.pargs++D.locs)[j]? =some n:=hn
   rwa[zM hj]at this
  have hl:D.scope.names.lookup n=some .local:=At.kinds n (jh hn)
  show match D.scope.names.lookup n with |some .local=>_ |some _=>_ |none=>False
  rw[hl]
  refine Ab (q.hvs.get hx) fun rv e1 e2=>?_
  exact⟨rv,NX q.hmeth (NY At) hnj e1,.v e2⟩
 ·refine Ao (q.hself x dx e) fun z1 z2=>?_
  exact⟨N0 q.hmeth (NY At) e,z1,z2⟩
theorem SO.args(q:SO c (d+1) f A₀ A R σ s m led sd vs rvs fs hp D.Ah)(har:vs.length=D.pargs.length):(AZ sd++rvs).length=(D.AI c.self).length:=NV q.hmeth (q.hvs.length.trans har)
theorem SO.room(q:SO c (d+1) f A₀ A R σ s m led sd vs rvs fs hp D.Ah):A.depth < recursionLimit:=by have:=q.G.depth;have:=q.nr.d;lia
theorem R4{K:Val→List (Option Val)→List Cell→Prop}{Rp:PySem.Result→Shared→Prop}(hok:SY c f R s m led sd K Rp){f':Fx}{R':Rec}{σ':St}{s':Shared}{m':Str→Option Value}{led':List (Addr×Obj)}
  (sm:Ar s s') (le:(R.call led sd).le R') (r':Rel c f' R' σ' s'.heap m' led') {lv:LV} {rv:Value} (hk:Qe K lv σ') (hlr:LR c R' lv rv):LeaveK f.h₀ f.L m f'.h₀ Rp rv s':=by
 refine Ab (Ae hk) fun x hx hk=>?_
 refine Ab (Ae hk) fun fs' ND hk=>?_
 exact leaveK_ r'.F r'.N fun F'' N''=>hok x fs' σ'.heap rv s' f' R' σ' m' led' lv hk sm le r' hx hlr ND rfl F'' N''
theorem call_plain{C':Cfg}{fn:Fn}{K:Val→List (Option Val)→List Cell→Prop}{X:A7→List (Option Val)→List Cell→Prop}{Rp:PySem.Result→Shared→Prop}(q:SO c (d+1) f A₀ A R σ s m led sd vs rvs fs hp D.Ah)(At:FnAt c k D a cdv)(har:vs.length=D.pargs.length)
  (hb:KM c C' d D.body D.qual D.scope a cdv D.names D.Ah fn.body) (hw:Ay C' (DQ X) fn.body (DC K) ⟨start vs n,[],BD fs,hp⟩) (hX:∀x fs h,¬X x fs h) (hok:SY c f R s m led sd K Rp):codeAny (model c.prog c.w) A (.call (.ref a) ⟨AZ sd++rvs,[]⟩) Rp s:=by
 refine DE q.G.fr fun outer A₁ base hfr₀ B₀=>?_
 have hfr:A.frames=some (f.env::outer):=q.nr.f.trans hfr₀
 refine EG q.G.T fun p loose mean mg mb T=>?_
 refine EG At.at_ fun dV kV doc pm an h=>SN h fun ct oc od osl hlk hbind=>?_
 have Xs:c.K.In s.heap:=q.G.X.keeps q.r.F.keep
 refine callX_plain B₀ q.r.F q.r.N T.nolimit hfr rfl q.G.kind (Xs _ _ hlk) rfl (codeRec_of Xs At.code) q.room (BindsTo.of_eq (hbind _ (q.args har))) (fun y hy=>NW At y.1 (List.of_mem_zip (b:=y.2) hy).1) (fun g L' h₁ FG F N B' st hlt=>?_) At.nocell At.co At.gen At.kind
 refine Bi (q.frame (n:=n) At har hfr F N B' st) fun r₁ G' NM=>?_
 refine hb (Fo D L' a cdv g) _ (R.call led sd) _ {s with heap:=h₁,toks:=s.toks+((D.AI c.self).zip (AZ sd++rvs)).length} _ _ (DQ X) (DC K) rfl rfl rfl rfl rfl rfl q.hmeth G' NM (RK q.hmeth (q.args har)) r₁ (fun x σ hx=>Ab (Ae hx) fun fs' _ hx=>hX _ _ _ hx) hw _ _ fun o σ' R' fl s' le sm hk rx hfl=>?_
 refine Aq rx fun m' led' r'=>?_
 have fin:=fun{lv rv}=>R4 (lv:=lv) (rv:=rv) hok ⟨sm.gens,sm.drawn,sm.os,zl (zA _ _) sm.tk⟩ le r'
 induction o using Out.casesOn with
 |next=>cases fl with
  |next=>exact fin (lv:=.v .none) hk (.v .none)
  |_=>exact hfl.elim
 |ret lv=>cases fl with
  |ret rv=>exact fin hk hfl
  |_=>exact hfl.elim
 |brk=>exact hk.elim
 |cont=>exact hk.elim
end
structure DK(c:Cx)(P:Ne)(Ds:List (En×Addr×Value)):Prop where
 hlen:P.fns.length=Ds.length
 hfad:c.fad.length=Ds.length
 hfn:∀(k:Nat) (D:En) (a:Addr) (cdv:Value),Ds[k]? =some (D,a,cdv)→FnAt c k D a cdv
 har:∀(k:Nat) (D:En) (a:Addr) (cdv:Value) (fn:Fn),Ds[k]? =some (D,a,cdv)→P.fns[k]? =some fn→fn.ar=D.pargs.length
 few:Ds.length≤1000
noncomputable def H8(Ds:List (En×Addr×Value))(k:Nat):Bool:=match Ds[k]? with |some (D,_,_)=>D.Ah |none=>false
theorem DK.get{P:Ne}{Ds:List (En×Addr×Value)}(H:DK c P Ds){k:Nat}{a:Addr}(h:c.fad[k]? =some a):∃fn D cdv,P.fns[k]? =some fn∧Ds[k]? =some (D,a,cdv)∧k < 1000:=by
 have hk:=(zu.mp h).1
 have h2:k < Ds.length:=H.hfad▸hk
 obtain⟨⟨D,a',cdv⟩,hD⟩:∃D,Ds[k]? =some D:=⟨Ds[k],jc h2⟩
 have e:a'=a:=ze ((H.hfn k D a' cdv hD).fad.symm.trans h)
 exact⟨P.fns[k]'(H.hlen▸h2),D,cdv,jc _,e▸hD,zO h2 H.few⟩
theorem Ml{C C':Cfg}{P:Ne}{d:Nat}{Ds:List (En×Addr×Value)}(H:DK c P Ds)(hC:C.call=AD P (d+1))(hC':C'=⟨P.rx,AD P d,P.init,P.nf⟩)
  (hbody:∀(k:Nat) (D:En) (a:Addr) (cdv:Value) (fn:Fn),Ds[k]? =some (D,a,cdv)→P.fns[k]? =some fn→KM c C' d D.body D.qual D.scope a cdv D.names D.Ah fn.body):
  A4 c C (d+1) (H8 Ds):=by
 intro k fs vs hp K X a had hcall hX f A₀ A R σ s m led sd rvs q Rp hok
 refine CS (H.get had) fun fn D cdv hf hD _=>?_
 have hq:H8 Ds k=D.Ah:=by unfold H8;rw[hD]
 rw[hq]at q
 rw[hC]at hcall
 have hcall:(match P.fns[k]? with |some fn=>Br (Nat.beq vs.length fn.ar) (Ay ⟨P.rx,AD P d,P.init,P.nf⟩ (DQ X) fn.body (DC K) ⟨start vs fn.nloc,[],BD fs,hp⟩) False |none=>_):=hcall
 rw[hf]at hcall
 refine Ao (BQ hcall) fun har0 hcall=>?_
 rw[←hC']at hcall
 have har:vs.length=D.pargs.length:=(zD har0).trans (H.har k D a cdv fn hD hf)
 exact call_plain q (H.hfn k D a cdv hD) har (hbody k D a cdv fn hD hf) hcall hX hok
end
end
section
structure Sx where
 names:List Str
 cs:Scope
 Ah:Bool
structure At(c:Cx)(S:Sx)(d:Nat)(f:Fx)(A:Around)(X:A7→St→Prop)(R:Rec)(σ:St)(s:Shared):Prop where
 G:Nb c f A d
 NM:Hs c f
 names:f.names=S.names
 cs:f.cs=S.cs
 Ah:R.sd.isSome=S.Ah
 pos:S.Ah=true→0 < s.toks
 r:Al c f R σ s.heap
 nv:Nd X
theorem At.up{c:Cx}{S:Sx}{d:Nat}{f:Fx}{A:Around}{X:A7→St→Prop}{R R':Rec}{σ σ':St}{s s':Shared}(a:At c S d f A X R σ s)(le:R.le R')(sm:Ar s s')(r:Al c f R' σ' s'.heap):At c S d f A X R' σ' s':=
 {a with Ah:=by rw[le.sd];exact a.Ah,pos:=fun h=>zO (a.pos h) sm.tk,r:=r}
noncomputable def Zn(c:Cx):Prop:=∀(n:Str) (v:Val),(n,v)∈c.gl→∃rv,nsIn c.K mainGlobals n=some (some rv)∧∀R,c.V R v rv
structure PD(c:Cx)(n:Str):Prop where
 get:plainGet c.K c.PC n=true
 dict:hasDictIn c.K c.PC=true
 find:∃attr,findIn c.K (.ref c.PC) n=some attr∧noGet c.K attr=true
 set:findIn c.K (.ref c.PC) "__setattr__"=some (some (.builtin "object.__setattr__"))
 over:plainOver c.K c.PC=true
 taker:takerIn c.K c.PC n=some none
structure EJ(c:Cx):Prop where
 gl:Zn c
 attrs:∀(k:Nat) (n:Str),c.attrs[k]? =some n→PD c n
 nd:c.attrs.Nodup
 few:c.attrs.length≤900
noncomputable def GJ:P2→Option CmpOp
 | .eq=>some .Eq | .ne=>some .NotEq | .lt=>some .Lt | .gt=>some .Gt | .ge=>some .GtE | .isin=>some .In | .notin=>some .NotIn
 |_=>none
noncomputable def HV:P2→Option Operator
 | .add=>some .Add | .sub=>some .Sub | .mul=>some .Mult | .fdiv=>some .FloorDiv | .mod=>some .Mod
 |_=>none
noncomputable def Ew(x:PySem.Expr):Bool:=Nat.beq x.ctorIdx 7
theorem HU{op:CmpOp}{x:PySem.Expr}(h:Ew x=false):behindInMarks op x=false:=by
 cases x <;>first |rfl |cases h
structure Px(c:Cx)(S:Sx)(n:Str)(v:Value):Prop where
 gl:nsIn c.K mainGlobals n=some none
 bi:bootBuiltins n=some v
 nn:n≠"__name__"
 k:S.cs.names.lookup n=some .globalImplicit
 db:(n==("__debug__":Str))=false
structure KL(c:Cx)(S:Sx)(n:Str)(v:Value):Prop where
 gl:nsIn c.K mainGlobals n=some (some v)
 k:S.cs.names.lookup n=some .globalImplicit
 db:(n==("__debug__":Str))=false
section
variable {c:Cx}{S:Sx}{d:Nat}{f:Fx}{A:Around}{X:A7→St→Prop}{R R':Rec}{σ σ':St}{s s':Shared}{E:Value→Shared→Prop}{m:Str→Option Value}{led:List (Addr×Obj)}{rx:Rx}{EP:HN}{K:LV→St→Prop}
theorem Fk(a:At c S d f A X R σ s){n:Str}{v:Value}{pos:Pos}{Q:Value→Shared→Prop}(b:Px c S n v)(h:Q v s):wpAny (model c.prog c.w) A (eval (.Name n pos) f.env) Q E s:=by
 refine EG a.G.T fun p loose mean mg mb T=>?_
 have T:=topRead_of T
 refine Aq a.r fun m led r=>?_
 exact nameX_B r.F a.G.X T b.gl b.bi b.nn h a.G.kind (by show f.cs.names.lookup n=_;rw[a.cs];exact b.k) b.db
theorem Er(a:At c S d f A X R σ s){n:Str}{v:Value}{pos:Pos}{Q:Value→Shared→Prop}(b:KL c S n v)(h:Q v s):wpAny (model c.prog c.w) A (eval (.Name n pos) f.env) Q E s:=by
 refine EG a.G.T fun p loose mean mg mb T=>?_
 have T:=topRead_of T
 refine Aq a.r fun m led r=>?_
 exact nameX_K r.F a.G.X T b.gl h a.G.kind (by show f.cs.names.lookup n=_;rw[a.cs];exact b.k) b.db
theorem Fe(a:At c S d f A X R σ s){x dx:Addr}(hs:R.sd=some (x,dx)){pos:Pos}{Q:Value→Shared→Prop}(hk:S.cs.names.lookup c.self=some .local)(hd:(c.self==("__debug__":Str))=false)(h:Q (.ref x) s):
  wpAny (model c.prog c.w) A (eval (.Name c.self pos) f.env) Q E s:=by
 refine Aq a.r fun m led r=>?_
 exact nameX_L r.F (r.self x dx hs).1 h a.G.kind (by show f.cs.names.lookup _=_;rw[a.cs];exact hk) hd
theorem My(r:Rel c f R σ s.heap m led){x dx:Addr}(hs:R.sd=some (x,dx)):∃es n,(dx,dictOf es n)∈led∧Aj c R σ.self es∧InstAt s.heap x (instObj c.PC dx) c.PC (some (dictOf es n)):=by
 refine Bi (r.self x dx hs) fun _ z h0=>A6 h0 fun es n h1 h2=>?_
 exact⟨es,n,h1,h2,r.get z,rfl,rfl,r.BN h1⟩
theorem handed{c:Cx}{R:Rec}{l:LV}{rv:Value}(h:LR c R l rv):handedIn rv=true:=by
 induction h using LR.casesOn with
 |v y=>cases y <;>rfl
 |_=>rfl
theorem Tr(ok:EJ c)(a:At c S d f A X R σ s){x dx:Addr}(hs:R.sd=some (x,dx)){k:Nat}{n:Str}{v:LV}{ex:Bool}(hn:c.attrs[k]? =some n)(hv:Ax σ.self k=some v){Q:Value→Shared→Prop}
  (h:∀rv s',Ar s s'→Al c f R σ s'.heap→LR c R v rv→Q rv s'):wpAny (model c.prog c.w) A (getAttr (.ref x) n ex) Q E s:=by
 refine Aq a.r fun m led r=>?_
 refine Ba (My r hs) fun es nn h1 h2 I=>?_
 have at_:=ok.attrs k n hn
 refine Ab at_.find fun attr f1 f2=>?_
 have:=h2.1 k n hn
 rw[hv]at this
 refine Ab this fun rv g1 g2=>?_
 exact get_own r.F a.G.X I at_.get at_.dict f1 f2 g1 (handed g2) (h rv _ (An (h':=s.heap) (zV _)) ⟨m,led,r⟩ g2)
theorem Qb{α:Type}(l:List (Option α)):∀(k:Nat) (v:α),k < l.length→(match Ax l k with |some _=>cnt (Bg l k v)=cnt l |none=>cnt (Bg l k v)=cnt l+1):=by
 induction l with
 |nil=>exact fun k v h=>absurd h (jt k)
 |cons x r ih=>
  intro k v h
  induction k using zE with
  |zero=>induction x using zh <;>rfl
  |succ k=>
   have q:=ih k v (jB h)
   induction x using zh with
   |none=>exact q
   |some x=>
    show(match Ax r k with |some _=>cnt (Bg r k v)+1=cnt r+1 |none=>cnt (Bg r k v)+1=cnt r+1+1)
    revert q
    induction Ax r k using zh <;>exact zB (· +1)
theorem Wy{α:Type}(l:List (Option α)):cnt l≤l.length:=by
 induction l with
 |nil=>exact zw _
 |cons x r ih=>induction x using zh with
  |none=>exact jx ih
  |some _=>exact zN ih
section
variable {name:Str}{hsh:Int}{t:Tok}{key v:Value}{e:DictEntry}{r:List DictEntry}
theorem Ku(h:e.key.isStr name=true):putL name hsh key v (e::r)=⟨e.hash,e.key,v⟩::r:=zX h
theorem Kt(h:e.key.isStr name=false):putL name hsh key v (e::r)=e::putL name hsh key v r:=zP (by rw[h];exact jE)
theorem PO(hk:∀h u,DictEntry.refKey ⟨h,key,u⟩=false)(es:List DictEntry):(putL name hsh key v es).any (·.refKey)=es.any (·.refKey):=by
 induction es with
 |nil=>show(DictEntry.refKey ⟨hsh,key,v⟩ || false)=false;rw[hk];rfl
 |cons e r ih=>induction h:e.key.isStr name using za with
  |true=>rw[Ku h];rfl
  |false=>rw[Kt h,JG,JG,ih]
theorem H5{x:Value}{n n':Str}(h:x.isStr n=true)(hn:n'≠n):x.isStr n'=false:=by
 cases x with
 |str y u=>exact jk.mpr fun e=>hn (e.symm.trans (eq_of_beq h))
 |_=>exact Bool.noConfusion h
theorem OI(n':Str)(es:List DictEntry):((putL name hsh (.str name t) v es).find? (·.key.isStr n')).map (·.val)=if n'=name then some v else(es.find? (·.key.isStr n')).map (·.val):=by
 have fy:∀{e:DictEntry} {r:List DictEntry},e.key.isStr n'=true→((e::r).find? (·.key.isStr n')).map (·.val)=some e.val:=fun{e r} h=>by rw[List.find?_cons_of_pos (p:=fun e:DictEntry=>e.key.isStr n') h];rfl
 have fn:∀{e:DictEntry} {r:List DictEntry},e.key.isStr n'=false→((e::r).find? (·.key.isStr n')).map (·.val)=(r.find? (·.key.isStr n')).map (·.val):=fun{e r} h=>by rw[List.find?_cons_of_neg (p:=fun e:DictEntry=>e.key.isStr n') (by rw[h];exact jE)]
 by_cases hn:n'=name
 ·rw[zX hn]
  have hk:(Value.str name t).isStr n'=true:=beq_iff_eq.mpr hn.symm
  induction es with
  |nil=>exact fy hk
  |cons e r ih=>induction h:e.key.isStr name using za with
   |true=>rw[Ku h];exact fy (hn▸h)
   |false=>rw[Kt h,fn (hn▸h)];exact ih
 ·rw[zP hn]
  induction es with
  |nil=>exact fn (e:=⟨hsh,.str name t,v⟩) (jk.mpr fun e=>hn e.symm)
  |cons e r ih=>induction h:e.key.isStr name using za with
   |true=>rw[Ku h,fn (e:=⟨e.hash,e.key,v⟩) (H5 h hn),fn (H5 h hn)]
   |false=>
    rw[Kt h]
    induction h':e.key.isStr n' using za with
    |true=>rw[fy h',fy h']
    |false=>rw[fn h',fn h'];exact ih
end
theorem EY(n:Str)(es:List DictEntry):getL n es=match(es.find? (·.key.isStr n)).map (·.val)with |some v=>some (some v) |none=>if es.any (·.refKey)then none else some none:=by
 unfold getL
 induction es.find? (·.key.isStr n)using zh <;>rfl
theorem H4{name n':Str}{hsh:Int}{t:Tok}{v:Value}{es:List DictEntry}:getL n' (putL name hsh (.str name t) v es)=if n'=name then some (some v)else getL n' es:=by
 rw[EY,OI,PO (fun _ _=>rfl),EY]
 by_cases h:n'=name
 ·rw[zX h,zX h]
 ·rw[zP h,zP h]
theorem QX{name:Str}{hsh:Int}{key v:Value}(es:List DictEntry):(putL name hsh key v es).length=if es.any (·.key.isStr name)then es.length else es.length+1:=by
 induction es with
 |nil=>rfl
 |cons e r ih=>
  rw[JG]
  induction h:e.key.isStr name using za with
  |true=>rw[Ku h];rfl
  |false=>
   rw[Kt h,zy,ih,Bool.false_or]
   by_cases q:r.any (·.key.isStr name)=true
   ·rw[zX q,zX q];rfl
   ·rw[zP q,zP q];rfl
theorem T8{l:List Str}(h:l.Nodup){i j:Nat}{n:Str}(a:l[i]? =some n)(b:l[j]? =some n):i=j:=by
 refine zg (zu.mp a) fun h1 q1=>?_
 refine zg (zu.mp b) fun h2 q2=>?_
 exact(J4 h).mp (q1.trans q2.symm)
theorem Oa(ok:EJ c)(a:At c S d f A X R σ s){x dx:Addr}(hs:R.sd=some (x,dx)){k:Nat}{n:Str}{v:LV}{rv:Value}(hn:c.attrs[k]? =some n)(hv:LR c R v rv){Q:Unit→Shared→Prop}
  (h:∀s',Ar s s'→Al c f R (σ.Sd k v) s'.heap→Q () s'):wpAny (model c.prog c.w) A (setAttr (.ref x) n rv) Q E s:=by
 refine Aq a.r fun m led r=>?_
 refine Ba (My r hs) fun es nn h1 h2 I=>?_
 have at_:=ok.attrs k n hn
 refine M9 h2 fun p1 p2 p3 p4=>?_
 have hkl:k < σ.self.length:=by rw[p4];exact(zu.mp hn).1
 have hex:(getL n es).isSome=true:=by
  have:=p1 k n hn
  revert this
  induction Ax σ.self k using zh with
  |none=>intro h;rw[h];rfl
  |some v=>rintro⟨rv,h,_⟩;rw[h];rfl
 have hany:es.any (·.key.isStr n)=(Ax σ.self k).isSome:=by
  have:=p1 k n hn
  revert this
  induction q:Ax σ.self k using zh with
  |none=>
   intro h
   rw[EY]at h
   induction hf:es.find? (·.key.isStr n)using zh with
   |none=>
    rw[Option.isSome_none]
    rw[List.any_eq_false]
    exact fun e he=>by simpa using List.find?_eq_none.mp hf e he
   |some e=>rw[hf]at h;cases h
  |some v=>
   rintro⟨rv,h,_⟩
   rw[EY]at h
   induction hf:es.find? (·.key.isStr n)using zh with
   |none=>rw[hf]at h;simp only[Option.map_none]at h;split at h <;>cases h
   |some e=>
    rw[Option.isSome_some,List.any_eq_true]
    exact⟨e,List.mem_of_find?_eq_some hf,by simpa using List.find?_some hf⟩
 have hlen:=QX (name:=n) (hsh:=PyData.keyHash c.w.params n) (key:=.str n (s.toks+1)) (v:=rv) es
 rw[hany]at hlen
 have hcnt:=Qb σ.self k v hkl
 have hF:Aj c R (Bg σ.self k v) (putL n (PyData.keyHash c.w.params n) (.str n (s.toks+1)) rv es):=by
  refine⟨fun j n' hj=>?_,fun n' hn'=>?_,?_,by rw[FS];exact p4⟩
  ·rw[H4]
   by_cases e:j=k
   ·subst e
    rw[hn]at hj;cases hj
    rw[GW hkl]
    exact⟨rv,by simp,hv⟩
   ·have hne:n'≠n:=fun e'=>e (T8 ok.nd hj (e'▸hn))
    rw[I8 e,zP hne]
    exact p1 j n' hj
  ·rw[H4]
   have hne:n'≠n:=fun e'=>hn' (e'▸jh hn)
   rw[zP hne];exact p2 n' hn'
  ·revert hlen hcnt
   induction Ax σ.self k using zh with
   |none=>intro h1 h2;simp only[Option.isSome_none,JU,if_false]at h1 h2;rw[h1,h2];lia
   |some y=>intro h1 h2;simp only[Option.isSome_some,if_true]at h1 h2;rw[h1,h2];exact p3
 have hbound:(putL n (PyData.keyHash c.w.params n) (.str n (s.toks+1)) rv es).length≤1000:=by
  have h3:=hF.2.2.1
  have h4:=Wy (Bg σ.self k v)
  rw[FS,p4]at h4
  have:=ok.few
  lia
 refine set_dict r.F a.G.X r.N I rfl at_.set at_.over at_.taker at_.dict hex rfl (Ok _ h1 r.nd) hbound fun h' F N=>?_
 exact h _ (An (by lia)) ⟨_,_,r.UA hs F N hF⟩
end
end
inductive Mc(c:Cx)(R:Rec)(h:Heap):List Val→List Value→Prop
 |nil:Mc c R h [] []
 |cons {x:Val} {v:Value} {xs:List Val} {vs:List Value} (a:VH c R h x v) (b:Mc c R h xs vs):Mc c R h (x::xs) (v::vs)
def After(c:Cx)(S:Sx)(d:Nat)(f:Fx)(A:Around)(X:A7→St→Prop)(o:Option Val)(Q:Value→Shared→Prop)(R₁:Rec)(σ₁:St)(s₁:Shared):Prop:=
 ∃v,o=some v∧At c S d f A X R₁ σ₁ s₁∧∀R' rv s',R₁.le R'→Ar s₁ s'→Al c f R' σ₁ s'.heap→c.V R' v rv→Q rv s'
def Bb(c:Cx)(S:Sx)(n:Str)(sem:List Val→Option Val):Prop:=
 ∀{d:Nat} {f:Fx} {A:Around} {X:A7→St→Prop} {R:Rec} {σ:St} {s:Shared},At c S d f A X R σ s→∀(npos pos:Pos) (x:PySem.Expr) (xs:List PySem.Expr) (E Q:Value→Shared→Prop),(x::xs).all Ag=true→
  wpAny (model c.prog c.w) A (spliced (backTo pos (starEach (x::xs) f.env))) (fun vs s₁=>∃R₁ σ₁ ws,Mc c R₁ s₁.heap ws vs∧After c S d f A X (sem ws) Q R₁ σ₁ s₁) E s→
  wpAny (model c.prog c.w) A (eval (.Call (.Name n npos) (x::xs) [] pos) f.env) Q E s
def Bc(c:Cx)(S:Sx)(n:Str)(dom:Val→Bool)(sem:Val→List Val→Option Val):Prop:=
 ∀{d:Nat} {f:Fx} {A:Around} {X:A7→St→Prop} {R:Rec} {σ:St} {s:Shared},At c S d f A X R σ s→∀(apos pos:Pos) (o:PySem.Expr) (xs:List PySem.Expr) (E Q:Value→Shared→Prop),CZ o→xs.all Ag=true→xs.length < 25→(apos.endLine==pos.line)=true→
  wpAny (model c.prog c.w) A (eval o f.env) (fun ov s₁=>∃R₁ σ₁ w,At c S d f A X R₁ σ₁ s₁∧c.V R₁ w ov∧dom w=true∧
   wpAny (model c.prog c.w) A (spliced (backTo pos (starEach xs f.env))) (fun vs s₂=>∃R₂ σ₂ ws,R₁.le R₂∧c.Vs R₂ ws vs∧After c S d f A X (sem w ws) Q R₂ σ₂ s₂) E s₁) E s→
  wpAny (model c.prog c.w) A (eval (.Call (.Attribute o n apos) xs [] pos) f.env) Q E s
def EM(c:Cx)(S:Sx)(x y:PySem.Expr)(sem:Val→Option Val):Prop:=
 ∀{d:Nat} {f:Fx} {A:Around} {X:A7→St→Prop} {R:Rec} {σ:St} {s:Shared},At c S d f A X R σ s→∀(E Q:Value→Shared→Prop),
  wpAny (model c.prog c.w) A (eval x f.env) (fun v s₁=>∃R₁ σ₁ w,VH c R₁ s₁.heap w v∧After c S d f A X (sem w) Q R₁ σ₁ s₁) E s→
  wpAny (model c.prog c.w) A (eval y f.env) Q E s
def SW(c:Cx):Prop:=
 ∀{S:Sx} {d:Nat} {f:Fx} {A:Around} {X:A7→St→Prop} {R:Rec} {σ:St} {s:Shared} {k:Nat} {a:Addr},At c S d f A X R σ s→R.ω[k]? =some a→∀(E Q:Value→Shared→Prop),
  (∀R' q s',R.le R'→Ar s s'→Al c f R' σ s'.heap→c.Z R' q (Fh a)→Q (.ref q) s')→wpAny (model c.prog c.w) A (getAttr (.ref a) "append" true) Q E s
structure i4(c:Cx)(S:Sx)(n:Str)(k:Nat):Prop where
 mth:c.mth k=false
 at_:∃a,c.fad[k]? =some a∧KL c S n (.ref a)∧keepIn c.K (.ref a)=true
structure SX(c:Cx)(n:Str)(k:Nat):Prop where
 mth:c.mth k=true
 at_:∃a,c.fad[k]? =some a∧findIn c.K (.ref c.PC) n=some (some (.ref a))∧isFn c.K (.ref a)=true∧keepIn c.K (.ref a)=true
 get:plainGet c.K c.PC n=true
 no:n∉c.attrs
def PI(c:Cx)(C:Cfg)(d:Nat)(S:Sx)(n:Str):Prop:=
 ∀{f:Fx} {A:Around} {X:A7→St→Prop} {R:Rec} {σ:St} {s:Shared} {EP:HN} {K:LV→St→Prop} {npos pos:Pos} {x:PySem.Expr} {xs:List PySem.Expr},At c S d f A X R σ s→(x::xs).all Ag=true→
  Hp c f A X EP R σ s pos (x::xs) (fun vs σ=>C.call C.init (BK C.nf) vs (σ.heap++[.taken]) (fun r fs' h=>Br (Gy r) (K (.v (.obj σ.heap.length)) (σ.DI (h.set σ.heap.length (.flds fs')))) False) (fun x fs' h=>X x (σ.DI (h.set σ.heap.length (.flds fs')))))→
  SV c f A X EP R σ s (.Call (.Name n npos) (x::xs) [] pos) K
section
section
variable {c:Cx}{f:Fx}{A:Around}{R:Rec}{σ:St}{s:Shared}{m:Str→Option Value}{led:List (Addr×Obj)}
theorem RT(xs:List Val)(n:Nat):(Kw xs n).length=xs.length*n:=by
 induction n with
 |zero=>rfl
 |succ n ih=>show(xs++Kw xs n).length=_;rw[zd,ih,J7,jy]
theorem Yr{c:Cx}{R:Rec}{xs:List Val}{vs:List Value}(h:c.Vs R xs vs)(n:Nat):c.Vs R (Kw xs n) (List.replicate n vs).flatten:=by
 induction n with
 |zero=>exact .nil
 |succ n ih=>rw[List.replicate_succ,List.flatten_cons];exact Bv.append h ih
theorem XH{prog:Program}{w:World}{E Q:Value→Shared→Prop}{a:Addr}{vs:List Value}{k:Nat}{d:Option Addr}{sl:Array (Option Value)}{x:Int}{u:Tok}(ho:s.heap.get? a=some {cls:=.type "list",dict:=d,data:=.seq vs.toArray k,slots:=sl})
  (hlo: -(2 ^ 63:Int)≤x) (hhi:x < 2 ^ 63) (hsz:vs.length*x.toNat≤2 ^ 24) (h:Q (.ref s.heap.objs.size) {s with heap:=s.heap.push (seqObj false (List.replicate x.toNat vs).flatten 0)}):wpAny (model prog w) A (binaryOp .Mult (.ref a) (.int x u)) Q E s:=by
 have hsz':vs.toArray.size*x.toNat≤2 ^ 24:=by simpa using hsz
 refine wpAny_binaryOp_repeat_ref (T:="list") (U:="int") (by decide) ⟨_,ho,rfl⟩ (fun s'=>typeIs_int s' x u) noFill_list_mul PySem.F.fills_int_mul PySem.F.slot_int_rmul repeat_list PySem.F.slot_int_index.lookup
  (call_meets PySem.F.slot_int_rmul (typeIs_int s x u) PySem.F.entry_int_rmul (PySem.F.args_int_rmul_2 _ _) (lm_int_rmul_list_any x u a vs.toArray k d sl)
   ⟨ho,rfl,⟨_,ho,rfl⟩,call_meets PySem.F.slot_list_mul ⟨_,ho,rfl⟩ PySem.F.entry_list_mul (PySem.F.args_list_mul_2 _ _)
    (lm_list_mul_any a vs.toArray k d sl x u (by simp[Builtin.List.listFitsIndex];omega) (by omega) (by simp[Builtin.List.listTooLong,sizeLine];omega))
    ⟨ho,?_⟩⟩)
 rw[listMul_foldl_if]
 exact h
theorem Yi(r:Al c f R σ s.heap){xs:List Val}{ra:Value}{n:Nat}{u:Tok}(ha:VH c R s.heap (.seq false xs) ra)(h:xs.length*n≤Az)(hn:n≤Az):
  AL c f A R σ s (binaryOp .Mult ra (.int (.ofNat n) u)) (.seq false (Kw xs n)):=by
 refine AL.made r fun E Q m led r0 hq=>?_
 refine AR (ha.seq r0) fun a vs k hq3 hg hl hs=>?_;subst hq3
 have hlen:=hs.length
 refine BM hg fun o ho hc hd=>?_
 obtain⟨cls,d,data,sl⟩:=o
 simp only[kindS]at hc hd
 subst hc hd
 have hL:=BO
 have e63:(16777216:Int) < 2 ^ 63:=by decide
 have en:(Int.ofNat n)=(n:Int):=rfl
 refine XH ho (by rw[en];omega) (by rw[en];omega) (by rw[hlen];show xs.length*n≤_;omega) ?_
 refine hq s.heap.objs.size _ _ _ s.toks (r0.F.push _) (JZ r0.F r0.N _) (fun p hp=>jv (r0.N p hp).1) fun R' le hz=>?_
 exact .seq (vs:=(List.replicate n vs).flatten) (n:=0) ⟨_,.inr hz,rfl,rfl⟩ (by rw[RT];exact h) (Yr (Vs.up le hs) n)
theorem ON{w:Val}{xs:List Val}{x:Int}{b:Bool}(h:C3 x (w::xs)=some b):∃y k,w=.int y∧C3 x xs=some k∧cond (IT y x) true k=b:=by
 induction w using Val.casesOn with
 |int y=>
  have h:(match C3 x xs with |some b=>some (cond (IT y x) true b) |none=>none)=some b:=h
  induction q:C3 x xs using zh with
  |none=>rw[q]at h;exact nomatch h
  |some k=>rw[q]at h;exact⟨y,k,rfl,rfl,ze h⟩
 |_=>exact nomatch h
theorem ints_in{c:Cx}{R:Rec}{x:Int}{xs:List Val}:∀{vs:List Value} {b:Bool},c.Vs R xs vs→C3 x xs=some b→∃ns,IntsAre vs ns∧ns.any (· ==x)=b:=by
 induction xs with
 |nil=>intro vs b hs e;rw[hs.Fu];exact⟨[],.nil,ze e⟩
 |cons w xs ih=>
  intro vs b hs e
  refine Ba (ON e) fun y k ey q eb=>?_
  refine Ba hs.Cc fun v ws ev h1 h2=>?_
  rw[ey]at h1
  refine zg h1.Xe fun t et=>?_
  refine Ab (ih h2 q) fun ns n1 n2=>?_
  refine⟨y::ns,by rw[ev,et];exact .cons y t n1,?_⟩
  rw[JG,n2,←eb,GN]
  by_cases hyx:y=x <;>simp[hyx]
theorem Yl(r:Al c f R σ s.heap){x:Int}{xs:List Val}{rv:Value}{t:Tok}{b:Bool}(hx:VH c R s.heap (.seq false xs) rv)(h:C3 x xs=some b):
  AL c f A R σ s (compareOp .NotIn (.int x t) rv) (.bool !b):=by
 refine Aq r fun m led r0=>?_
 refine AL.plain ⟨m,led,r0⟩ fun E Q hq=>?_
 refine AR (hx.seq r0) fun a vs n hq3 hg hl hs=>?_;subst hq3
 refine Ab (ints_in hs h) fun ns n1 n2=>?_
 refine notin_list_ints (AF hg) n1 ?_
 rw[n2]
 exact hq _ s.toks (.bool _)
end
open Builtin in
theorem HH(l:Addr)(items:Array Value)(n:Nat)(b:Addr)(items2:Array Value)(n2:Nat)(d:Option Addr)(sl:Array (Option Value))(hs0:¬(!items.isEmpty && Builtin.List.listTooLong (items.size+items2.size))=true)(hs1:items.size≤sizeLine)(hs2:items.size+items2.size≤sizeLine+1):
  Meets (Builtin.«list.__iadd__» ⟨[.ref l,.ref b],[]⟩) (fun _ R s=>s.heap.get? l=some {cls:=.type "list",dict:=none,data:=.seq items n,slots:= #[]}∧s.heap.get? b=some {cls:=.type "list",dict:=d,data:=.seq items2 n2,slots:=sl}∧R (.ok (.ret (Value.ref l))) {s with heap:=s.heap.update l (Obj.mapSeq fun x=>x++items2),toks:=s.toks}):=
 .of_wp fun prog w A R s h=>by
  obtain⟨hp,g,d,tk,os⟩:=s;obtain⟨hl,hb,h⟩:=h;have f1:=AutoSeq1.idx_int;have f2:=AutoSeq1.sub_tuple_tuple;have f3:=AutoSeq1.sub_list_list;have f4:=AutoSeq1.sub_tuple_list;have f5:=AutoSeq1.sub_list_tuple;
  have hz':(items++items2).size≤sizeLine+1:=by rw[Array.size_append];exact hs2
  wp_walk using(wpAny_updateSeq hl rfl (hz:=hs1) (_hz':=hz')),AutoSeq1.wpAny_loadPart' hl,AutoSeq1.wpAny_loadPart' hb;exact⟨_,rfl,h⟩
theorem HL:seqSlot? (.type "list") (dunderI "add")=pure (some (.builtin "list.__iadd__")):=PySem.seqSlot_of PySem.F.slot_list_iadd.lookup (by decide+kernel)
section
variable {M:Model}{A:Around}{E:Value→Shared→Prop}{s:Shared}
theorem OM{a b:Value}{Q:Value→Shared→Prop}(ha:s.TypeIs a "list")(hb:s.TypeIs b "list")(hc:wpAny M A (call (.builtin "list.__iadd__") [a,b]) Q E s):wpAny M A (inplaceOp .Add a b) Q E s:=by
 unfold inplaceOp
 refine jj ?_
 have hfi:fillsInplaceSlot (.type "list") "add" (Operator.Add==.Add)=pure false:=by
  unfold fillsInplaceSlot
  show(typeLookup (.type "list") (dunderI "add") >>=fun fi=>pure (fi.isSome && !isSeqSlot fi))=pure false
  rw[PySem.F.slot_list_iadd.lookup];rfl
 refine zn (wpAny_typeOf ha (zn (J8 hfi ?_)))
 show wpAny M A (if false=true then _ else _) Q E s
 rw[zP jE]
 refine zn (wpAny_binaryOp1_none (nm:="add") ha hb noFill_list_add ?_)
 refine zn (J8 HL ?_)
 exact zn (qe hc)
end
end
section
theorem nz{α:Type}{P:Prop}{v:α}(h:none=some v):P:=nomatch h
theorem ft{P:Prop}(h:false=true):P:=nomatch h
theorem Ad{a b:Bool}(h:(a && b)=true):a=true∧b=true:=zz.mp h
theorem DG{a b:Nat}(h:Nat.blt a b=true):a < b:=zp h
theorem Df{a b:Nat}(h:Nat.ble a b=true):a≤b:=zp h
theorem AU{α:Type}{b:Bool}{x y:α}(h:cond b (some x) none=some y):b=true∧x=y:=by
 induction b using za with
 |true=>exact⟨rfl,ze h⟩
 |false=>exact nz h
theorem Kc{o:Option Bool}{g:Bool→Val}{v:Val}(h:(match o with |some b=>some (g b) |none=>none)=some v):∃b,o=some b∧v=g b:=by
 induction o using zh with
 |none=>exact nz h
 |some b=>exact⟨b,rfl,(ze h).symm⟩
section
variable {rx:Rx}{x y v:Val}
theorem QN{P:Int→Prop}{F:Val→Option Val}(h:F x=some v)(hn:F .none=none)(hb:∀b,F (.bool b)=none)(hs:∀t,F (.str t)=none)(hq:∀t l,F (.seq t l)=none)(ho:∀d,F (.obj d)=none)(hm:∀p e,F (.mt p e)=none)(k:∀i,F (.int i)=some v→P i):∃i,x=.int i∧P i:=by
 induction x using Val.casesOn with
 |int i=>exact⟨i,rfl,k i h⟩
 |none=>rw[hn]at h;exact nz h
 |bool b=>rw[hb]at h;exact nz h
 |str t=>rw[hs]at h;exact nz h
 |seq t l=>rw[hq]at h;exact nz h
 |obj d=>rw[ho]at h;exact nz h
 |mt p e=>rw[hm]at h;exact nz h
theorem Fp{P:Int→Int→Prop}{F:Val→Val→Option Val}(h:F x y=some v)(hn:∀y,F .none y=none)(hb:∀b y,F (.bool b) y=none)(hs:∀t y,F (.str t) y=none)(hq:∀t l y,F (.seq t l) y=none)(ho:∀d y,F (.obj d) y=none)(hm:∀p e y,F (.mt p e) y=none)
  (in_:∀i,F (.int i) .none=none) (ib:∀i b,F (.int i) (.bool b)=none) (is:∀i t,F (.int i) (.str t)=none) (iq:∀i t l,F (.int i) (.seq t l)=none) (io:∀i d,F (.int i) (.obj d)=none) (im:∀i p e,F (.int i) (.mt p e)=none) (k:∀i j,F (.int i) (.int j)=some v→P i j):∃i j,x=.int i∧y=.int j∧P i j:=by
 obtain⟨i,rfl,j,rfl,p⟩:=QN (F:=fun x=>F x y) (P:=fun i=>∃j,y=.int j∧P i j) h (hn y) (fun b=>hb b y) (fun t=>hs t y) (fun t l=>hq t l y) (fun d=>ho d y) (fun p e=>hm p e y) fun i hi=>QN hi (in_ i) (ib i) (is i) (iq i) (io i) (im i) (k i)
 exact⟨i,j,rfl,rfl,p⟩
theorem Xo(h:AG rx .lt x y=some v):∃i j,x=.int i∧y=.int j∧v=.bool (ltI i j):=
 Fp (F:=AG rx .lt) h (fun _=>rfl) (fun _ _=>rfl) (fun _ _=>rfl) (fun _ _ _=>rfl) (fun _ _=>rfl) (fun _ _ _=>rfl) (fun _=>rfl) (fun _ _=>rfl) (fun _ _=>rfl) (fun _ _ _=>rfl) (fun _ _=>rfl) (fun _ _ _=>rfl) fun _ _ h=>(ze h).symm
theorem Tt(h:AG rx .gt x y=some v):∃i j,x=.int i∧y=.int j∧v=.bool (ltI j i):=
 Fp (F:=AG rx .gt) h (fun _=>rfl) (fun _ _=>rfl) (fun _ _=>rfl) (fun _ _ _=>rfl) (fun _ _=>rfl) (fun _ _ _=>rfl) (fun _=>rfl) (fun _ _=>rfl) (fun _ _=>rfl) (fun _ _ _=>rfl) (fun _ _=>rfl) (fun _ _ _=>rfl) fun _ _ h=>(ze h).symm
theorem W6(h:AG rx .ge x y=some v):∃i j,x=.int i∧y=.int j∧v=.bool !(ltI i j):=
 Fp (F:=AG rx .ge) h (fun _=>rfl) (fun _ _=>rfl) (fun _ _=>rfl) (fun _ _ _=>rfl) (fun _ _=>rfl) (fun _ _ _=>rfl) (fun _=>rfl) (fun _ _=>rfl) (fun _ _=>rfl) (fun _ _ _=>rfl) (fun _ _=>rfl) (fun _ _ _=>rfl) fun _ _ h=>(ze h).symm
theorem UU(h:AG rx .sub x y=some v):∃i j,x=.int i∧y=.int j∧v=.int (i - j):=
 Fp (F:=AG rx .sub) h (fun _=>rfl) (fun _ _=>rfl) (fun _ _=>rfl) (fun _ _ _=>rfl) (fun _ _=>rfl) (fun _ _ _=>rfl) (fun _=>rfl) (fun _ _=>rfl) (fun _ _=>rfl) (fun _ _ _=>rfl) (fun _ _=>rfl) (fun _ _ _=>rfl) fun _ _ h=>(ze h).symm
theorem Qd{o:P2}{i j:Int}{P:Prop}(hz:AG rx o (.int i) (.int 0)=none)(hn:∀n,AG rx o (.int i) (.int (.negSucc n))=none)(h:AG rx o (.int i) (.int j)=some v)(k:∀n,j=.ofNat (n+1)→AG rx o (.int i) (.int (.ofNat (n+1)))=some v→P):P:=by
 induction j using zW with
 |ofNat n=>induction n using zE with
  |zero=>rw[show Int.ofNat 0=0 from rfl,hz]at h;exact nz h
  |succ n=>exact k n rfl h
 |negSucc n=>rw[hn]at h;exact nz h
theorem Qq(h:AG rx .fdiv x y=some v):∃i j,x=.int i∧y=.int j∧∃n,j=.ofNat (n+1)∧Nat.blt n 1000000=true∧v=.int (Int.fdiv i (.ofNat (n+1))):=
 Fp (F:=AG rx .fdiv) h (fun _=>rfl) (fun _ _=>rfl) (fun _ _=>rfl) (fun _ _ _=>rfl) (fun _ _=>rfl) (fun _ _ _=>rfl) (fun _=>rfl) (fun _ _=>rfl) (fun _ _=>rfl) (fun _ _ _=>rfl) (fun _ _=>rfl) (fun _ _ _=>rfl) fun i j h=>Qd rfl (fun _=>rfl) h fun n e h=>⟨n,e,(AU h).1,(AU h).2.symm⟩
theorem TV(h:AG rx .mod x y=some v):∃i j,x=.int i∧y=.int j∧∃n,j=.ofNat (n+1)∧v=.int (Int.fmod i (.ofNat (n+1))):=
 Fp (F:=AG rx .mod) h (fun _=>rfl) (fun _ _=>rfl) (fun _ _=>rfl) (fun _ _ _=>rfl) (fun _ _=>rfl) (fun _ _ _=>rfl) (fun _=>rfl) (fun _ _=>rfl) (fun _ _=>rfl) (fun _ _ _=>rfl) (fun _ _=>rfl) (fun _ _ _=>rfl) fun i j h=>Qd rfl (fun _=>rfl) h fun n e h=>⟨n,e,(ze h).symm⟩
theorem Om{b:Bool}(h:Ze x y=some b):(∃p q,x=.bool p∧y=.bool q∧b=cond p q (!q))∨(∃p q,x=.int p∧y=.int q∧b=IT p q)∨∃p q,x=.str p∧y=.str q∧b=Bt p q:=by
 induction x using Val.casesOn with
 |bool p=>induction y using Val.casesOn with
  |bool q=>exact .inl ⟨p,q,rfl,rfl,(ze h).symm⟩
  |_=>exact nz h
 |int p=>induction y using Val.casesOn with
  |int q=>exact .inr (.inl ⟨p,q,rfl,rfl,(ze h).symm⟩)
  |_=>exact nz h
 |str p=>induction y using Val.casesOn with
  |str q=>exact .inr (.inr ⟨p,q,rfl,rfl,(ze h).symm⟩)
  |_=>exact nz h
 |_=>exact nz h
theorem Xd(h:AG rx .isin x y=some v):∃ch u,x=.str [ch]∧y=.str u∧v=.bool (cin ch u):=by
 induction x using Val.casesOn with
 |str t=>induction y using Val.casesOn with
  |str u=>match t,h with
   |[ch],h=>exact⟨ch,u,rfl,rfl,(ze h).symm⟩
   |[],h=>exact nz h
   |_::_::_,h=>exact nz h
  |_=>match t,h with
   |[],h=>exact nz h
   |[_],h=>exact nz h
   |_::_::_,h=>exact nz h
 |_=>exact nz h
theorem O0(h:AG rx .notin x y=some v):(∃ch u,x=.str [ch]∧y=.str u∧v=.bool !(cin ch u))∨∃i xs b,x=.int i∧y=.seq false xs∧C3 i xs=some b∧v=.bool !b:=by
 induction x using Val.casesOn with
 |str t=>induction y using Val.casesOn with
  |str u=>match t,h with
   |[ch],h=>exact .inl ⟨ch,u,rfl,rfl,(ze h).symm⟩
   |[],h=>exact nz h
   |_::_::_,h=>exact nz h
  |_=>match t,h with
   |[],h=>exact nz h
   |[_],h=>exact nz h
   |_::_::_,h=>exact nz h
 |int i=>induction y using Val.casesOn with
  |seq tup xs=>induction tup using za with
   |true=>exact nz h
   |false=>refine Ab (Kc (o:=C3 i xs) (g:=fun b=>.bool !b) h) fun b h1 h2=>?_;exact .inr ⟨i,xs,b,rfl,rfl,h1,h2⟩
  |_=>exact nz h
 |_=>exact nz h
theorem PK(h:AG rx .add x y=some v):(∃i j,x=.int i∧y=.int j∧v=.int (i+j))∨(∃t u,x=.str t∧y=.str u∧t.length+u.length≤Az∧v=.str (t++u))∨∃t u,x=.seq false t∧y=.seq false u∧t.length+u.length≤Az∧v=.seq false (t++u):=by
 induction x using Val.casesOn with
 |int i=>induction y using Val.casesOn with
  |int j=>exact .inl ⟨i,j,rfl,rfl,(ze h).symm⟩
  |_=>exact nz h
 |str t=>induction y using Val.casesOn with
  |str u=>exact .inr (.inl ⟨t,u,rfl,rfl,Df (AU h).1,(AU h).2.symm⟩)
  |_=>exact nz h
 |seq tup t=>induction tup using za with
  |true=>exact nz h
  |false=>induction y using Val.casesOn with
   |seq tup' u=>induction tup' using za with
    |true=>exact nz h
    |false=>exact .inr (.inr ⟨t,u,rfl,rfl,Df (AU h).1,(AU h).2.symm⟩)
   |_=>exact nz h
 |_=>exact nz h
theorem TY(h:AG rx .mul x y=some v):(∃t n,x=.str t∧y=.int (.ofNat n)∧(t.length*n≤Az∧n≤Az)∧v=.str (rep t n))∨(∃t n,x=.str t∧y=.int (.negSucc n)∧n≤Az∧v=.str [])∨∃t n,x=.seq false t∧y=.int (.ofNat n)∧(t.length*n≤Az∧n≤Az)∧v=.seq false (Kw t n):=by
 induction x using Val.casesOn with
 |str t=>induction y using Val.casesOn with
  |int j=>induction j using zW with
   |ofNat n=>exact(.inl ⟨t,n,rfl,rfl,⟨Df (Ad (AU h).1).1,Df (Ad (AU h).1).2⟩,(AU h).2.symm⟩)
   |negSucc n=>exact .inr ((.inl ⟨t,n,rfl,rfl,Df (AU h).1,(AU h).2.symm⟩))
  |_=>exact nz h
 |seq tup t=>induction tup using za with
  |true=>exact nz h
  |false=>induction y using Val.casesOn with
   |int j=>induction j using zW with
    |ofNat n=>exact .inr ((.inr ⟨t,n,rfl,rfl,⟨Df (Ad (AU h).1).1,Df (Ad (AU h).1).2⟩,(AU h).2.symm⟩))
    |negSucc n=>exact nz h
   |_=>exact nz h
 |_=>exact nz h
end
section
variable {c:Cx}{f:Fx}{A:Around}{R:Rec}{σ:St}{s:Shared}{rx:Rx}{h:Heap}{x y v:Val}{a b:Value}{F:Value→Value→Val→Prop}
theorem VH.I3{i:Int}(y:VH c R h (.int i) a):∃t,a=.int i t:=by cases y with |of y=>cases y;exact⟨_,rfl⟩
theorem VH.LY{x:Txt}(y:VH c R h (.str x) a):∃t,a=.str ⟨x.toArray⟩ t∧x.length≤Az:=by cases y with |of y=>cases y with |str _ t hl=>exact⟨t,rfl,hl⟩
theorem VH.KY{p:Bool}(y:VH c R h (.bool p) a):a=.bool p:=by cases y with |of y=>cases y;rfl
theorem IZ{i j:Int}{r:Val}(hx:VH c R h x a)(hy:VH c R h y b)(ex:x=.int i)(ey:y=.int j)(ev:v=r)(k:∀t u,F (.int i t) (.int j u) r):F a b v:=by
 rw[ex]at hx;rw[ey]at hy;rw[ev]
 refine zg hx.I3 fun t hq1=>?_;subst hq1
 refine zg hy.I3 fun u hq1=>?_;subst hq1
 exact k t u
theorem QA{p q:Txt}{r:Val}(hx:VH c R h x a)(hy:VH c R h y b)(ex:x=.str p)(ey:y=.str q)(ev:v=r)(k:∀t u,F (.str ⟨p.toArray⟩ t) (.str ⟨q.toArray⟩ u) r):F a b v:=by
 rw[ex]at hx;rw[ey]at hy;rw[ev]
 refine Ab hx.LY fun t hq1 _=>?_;subst hq1
 refine Ab hy.LY fun u hq1 _=>?_;subst hq1
 exact k t u
theorem Z7{p:Txt}{j:Int}{r:Val}(hx:VH c R h x a)(hy:VH c R h y b)(ex:x=.str p)(ey:y=.int j)(ev:v=r)(k:∀t u,F (.str ⟨p.toArray⟩ t) (.int j u) r):F a b v:=by
 rw[ex]at hx;rw[ey]at hy;rw[ev]
 refine Ab hx.LY fun t hq1 _=>?_;subst hq1
 refine zg hy.I3 fun u hq1=>?_;subst hq1
 exact k t u
theorem d4(r:Al c f R σ s.heap){p q:Bool}:AL c f A R σ s (compareOp .NotEq (.bool p) (.bool q)) (.bool !(cond p q (!q))):=by
 refine AL.plain r fun E Q hq=>ne_bool ?_
 rw[show(p !=q)= !(cond p q (!q))from by induction p using za <;>induction q using za <;>rfl]
 exact hq _ s.toks (.bool _)
theorem dX(r:Al c f R σ s.heap){bb:Bool}(hx:VH c R s.heap x a)(hy:VH c R s.heap y b)(h:Ze x y=some bb):AL c f A R σ s (compareOp .Eq a b) (.bool bb):=by
 rcases Om h with⟨p,q,ex,ey,e⟩ |⟨p,q,ex,ey,e⟩ |⟨p,q,ex,ey,e⟩
 ·rw[ex]at hx;rw[ey]at hy
  rw[hx.KY,hy.KY,e];exact dU r
 ·exact IZ (F:=fun a b v=>AL c f A R σ s (compareOp .Eq a b) v) hx hy ex ey (zB Val.bool e) fun _ _=>G6 r rfl
 ·exact QA (F:=fun a b v=>AL c f A R σ s (compareOp .Eq a b) v) hx hy ex ey (zB Val.bool e) fun _ _=>dW r
theorem d7(r:Al c f R σ s.heap){bb:Bool}(hx:VH c R s.heap x a)(hy:VH c R s.heap y b)(h:Ze x y=some bb):AL c f A R σ s (compareOp .NotEq a b) (.bool !bb):=by
 rcases Om h with⟨p,q,ex,ey,e⟩ |⟨p,q,ex,ey,e⟩ |⟨p,q,ex,ey,e⟩
 ·rw[ex]at hx;rw[ey]at hy
  rw[hx.KY,hy.KY,e];exact d4 r
 ·exact IZ (F:=fun a b v=>AL c f A R σ s (compareOp .NotEq a b) v) hx hy ex ey (zB (fun b=>Val.bool !b) e) fun _ _=>G6 r rfl
 ·exact QA (F:=fun a b v=>AL c f A R σ s (compareOp .NotEq a b) v) hx hy ex ey (zB (fun b=>Val.bool !b) e) fun _ _=>d5 r
theorem VW(hu:A.units+64 < cLine)(r:Al c f R σ s.heap){o:P2}{op:CmpOp}(ho:GJ o=some op)(hx:VH c R s.heap x a)(hy:VH c R s.heap y b)(h:AG rx o x y=some v):
  AL c f A R σ s (compareOp op a b) v:=by
 have go:∀{op':CmpOp},some op'=some op→AL c f A R σ s (compareOp op' a b) v→AL c f A R σ s (compareOp op a b) v:=fun e k=>by rw[←ze e];exact k
 induction o using P2.casesOn with
 |eq=>refine Ab (Kc (o:=Ze x y) h) fun bb h1 hq2=>?_;subst hq2;exact go ho (dX r hx hy h1)
 |ne=>refine Ab (Kc (o:=Ze x y) (g:=fun b=>.bool !b) h) fun bb h1 hq2=>?_;subst hq2;exact go ho (d7 r hx hy h1)
 |lt=>refine Ba (Xo h) fun i j ex ey e=>?_;exact go ho (IZ (F:=fun a b v=>AL c f A R σ s (compareOp .Lt a b) v) hx hy ex ey e fun _ _=>G6 r rfl)
 |gt=>refine Ba (Tt h) fun i j ex ey e=>?_;exact go ho (IZ (F:=fun a b v=>AL c f A R σ s (compareOp .Gt a b) v) hx hy ex ey e fun _ _=>G6 r rfl)
 |ge=>refine Ba (W6 h) fun i j ex ey e=>?_;exact go ho (IZ (F:=fun a b v=>AL c f A R σ s (compareOp .GtE a b) v) hx hy ex ey e fun _ _=>G6 r rfl)
 |isin=>
  refine go (op':=.In) ho ?_
  refine Ba (Xd h) fun ch u ex ey e=>?_
  exact QA (F:=fun a b v=>AL c f A R σ s (compareOp .In a b) v) hx hy ex ey e fun _ _=>dZ r
 |notin=>
  refine go (op':=.NotIn) ho ?_
  rcases O0 h with⟨ch,u,ex,ey,e⟩ |⟨i,xs,bb,ex,ey,h1,e⟩
  ·exact QA (F:=fun a b v=>AL c f A R σ s (compareOp .NotIn a b) v) hx hy ex ey e fun _ _=>Ym r
  ·rw[ex]at hx;rw[ey]at hy;rw[e]
   refine zg hx.I3 fun u hq1=>?_;subst hq1
   exact Yl r hy h1
 |_=>exact nz ho
theorem dT(r:Al c f R σ s.heap){o:P2}{op:Operator}(ho:HV o=some op)(hx:VH c R s.heap x a)(hy:VH c R s.heap y b)(h:AG rx o x y=some v):
  AL c f A R σ s (binaryOp op a b) v:=by
 have go:∀{op':Operator},some op'=some op→AL c f A R σ s (binaryOp op' a b) v→AL c f A R σ s (binaryOp op a b) v:=fun e k=>by rw[←ze e];exact k
 induction o using P2.casesOn with
 |add=>
  refine go (op':=.Add) ho ?_
  rcases PK h with⟨i,j,ex,ey,e⟩ |⟨t,u,ex,ey,hl,e⟩ |⟨t,u,ex,ey,hl,e⟩
  ·exact IZ (F:=fun a b v=>AL c f A R σ s (binaryOp .Add a b) v) hx hy ex ey e fun _ _=>Yb r
  ·exact QA (F:=fun a b v=>AL c f A R σ s (binaryOp .Add a b) v) hx hy ex ey e fun _ _=>Yd r hl
  ·rw[ex]at hx;rw[ey]at hy;rw[e];exact Yc r hx hy hl
 |sub=>refine Ba (UU h) fun i j ex ey e=>?_;exact go ho (IZ (F:=fun a b v=>AL c f A R σ s (binaryOp .Sub a b) v) hx hy ex ey e fun _ _=>Yp r)
 |mul=>
  refine go (op':=.Mult) ho ?_
  rcases TY h with⟨t,n,ex,ey,hl,e⟩ |⟨t,n,ex,ey,hl,e⟩ |⟨t,n,ex,ey,hl,e⟩
  ·exact Z7 (F:=fun a b v=>AL c f A R σ s (binaryOp .Mult a b) v) hx hy ex ey e fun _ _=>Yk r hl.1 hl.2
  ·exact Z7 (F:=fun a b v=>AL c f A R σ s (binaryOp .Mult a b) v) hx hy ex ey e fun _ _=>Yj r hl
  ·rw[ex]at hx;rw[ey]at hy;rw[e]
   refine zg hy.I3 fun u hq1=>?_;subst hq1
   exact Yi r hx hl.1 hl.2
 |fdiv=>obtain⟨i,j,ex,ey,n,ej,hl,e⟩:=Qq h;exact go ho (IZ (F:=fun a b v=>AL c f A R σ s (binaryOp .FloorDiv a b) v) hx hy ex (ey.trans (zB Val.int ej)) e fun _ _=>Ye r hl)
 |mod=>obtain⟨i,j,ex,ey,n,ej,e⟩:=TV h;exact go ho (IZ (F:=fun a b v=>AL c f A R σ s (binaryOp .Mod a b) v) hx hy ex (ey.trans (zB Val.int ej)) e fun _ _=>Yh r)
 |_=>exact nz ho
end
end
section
section
variable {c:Cx}{C:Cfg}{S:Sx}{d:Nat}{f:Fx}{A:Around}{X:A7→St→Prop}{R R':Rec}{σ σ':St}{s s':Shared}{E:Value→Shared→Prop}{m:Str→Option Value}{led:List (Addr×Obj)}{rx:Rx}{EP:HN}{K:LV→St→Prop}
noncomputable def AE(c:Cx)(C:Cfg)(d:Nat)(S:Sx)(e:Ak.E)(x:PySem.Expr):Prop:=
 ∀(f:Fx) (A:Around) (X:A7→St→Prop) (EP:HN) (R:Rec) (σ:St) (s:Shared) (K:LV→St→Prop),At c S d f A X R σ s→Ce C X e K σ→SV c f A X EP R σ s x K
noncomputable def DM(c:Cx)(C:Cfg)(d:Nat)(S:Sx)(e:Ak.E)(x:PySem.Expr):Prop:=
 ∀(f:Fx) (A:Around) (X:A7→St→Prop) (EP:HN) (R:Rec) (σ:St) (s:Shared) (K:Bool→St→Prop),At c S d f A X R σ s→Ec C X e K σ→Zs c f A X EP R σ s x K
noncomputable def Vf(c:Cx)(C:Cfg)(d:Nat)(S:Sx)(es:Es)(xs:List PySem.Expr):Prop:=
 ∀(f:Fx) (A:Around) (X:A7→St→Prop) (EP:HN) (R:Rec) (σ:St) (s:Shared) (pos:Pos) (K:List Val→St→Prop),xs.all Ag=true→At c S d f A X R σ s→Hn C X es K σ→Hp c f A X EP R σ s pos xs K
noncomputable def Zp(c:Cx)(C:Cfg)(d:Nat)(S:Sx)(e:Ak.E)(x:Option PySem.Expr):Prop:=
 ∀(f:Fx) (A:Around) (X:A7→St→Prop) (EP:HN) (R:Rec) (σ:St) (s:Shared) (K:LV→St→Prop),At c S d f A X R σ s→Ce C X e K σ→∀(E Q:Value→Shared→Prop),PJ R s X EP E→
  (∀l σ' R' rv s',R.le R'→Ar s s'→K l σ'→Al c f R' σ' s'.heap→LR c R' l rv→Q rv s')→wpAny (model c.prog c.w) A (evalPart x f.env) Q E s
theorem AE.go{e:Ak.E}{x:PySem.Expr}(i:AE c C d S e x)(a:At c S d f A X R σ s)(h:Ce C X e K σ):SV c f A X EP R σ s x K:=i _ _ _ _ _ _ _ _ a h
theorem DM.go{e:Ak.E}{x:PySem.Expr}{K:Bool→St→Prop}(i:DM c C d S e x)(a:At c S d f A X R σ s)(h:Ec C X e K σ):Zs c f A X EP R σ s x K:=i _ _ _ _ _ _ _ _ a h
theorem Vf.go{es:Es}{xs:List PySem.Expr}{pos:Pos}{K:List Val→St→Prop}(i:Vf c C d S es xs)(hp:xs.all Ag=true)(a:At c S d f A X R σ s)(h:Hn C X es K σ):Hp c f A X EP R σ s pos xs K:=i _ _ _ _ _ _ _ _ _ hp a h
theorem Zp.go{e:Ak.E}{x:Option PySem.Expr}(i:Zp c C d S e x)(a:At c S d f A X R σ s)(h:Ce C X e K σ)(E Q:Value→Shared→Prop)(xo:PJ R s X EP E)
  (hq:∀l σ' R' rv s',R.le R'→Ar s s'→K l σ'→Al c f R' σ' s'.heap→LR c R' l rv→Q rv s'):wpAny (model c.prog c.w) A (evalPart x f.env) Q E s:=i _ _ _ _ _ _ _ _ a h E Q xo hq
theorem done(a:At c S d f A X R σ s){l:LV}{rv:Value}{Q:Value→Shared→Prop}{s':Shared}(hk:K l σ)(hl:LR c R l rv)(sm:Ar s s')(hh:s'.heap=s.heap)
  (hq:∀l σ' R' rv s',R.le R'→Ar s s'→K l σ'→Al c f R' σ' s'.heap→LR c R' l rv→Q rv s'):Q rv s':=
 hq l σ R rv s' (.refl R) sm hk (by rw[hh];exact a.r) hl
theorem Fg{K:Bool→St→Prop}{l:LV}{rv:Value}(a:At c S d f A X R σ s)(hl:LR c R l rv)(h:Gv K l σ){Q:Bool→Shared→Prop}(hq:∀b s',Ar s s'→Al c f R σ s'.heap→K b σ→Q b s'):
  wpAny (model c.prog c.w) A (truthy rv) Q E s:=by
 refine Ab (Ae h) fun x hx h=>?_
 refine Ab (Ae h) fun b hb h=>?_
 refine Aq a.r fun m led r=>?_
 exact Pg ⟨m,led,r⟩ (B2 r hx hl) hb fun s' sm r'=>hq b s' sm r' h
theorem one{a:Ak.E}{x:PySem.Expr}{sem:Val→Option Val}(ia:AE c C d S a x)(at_:At c S d f A X R σ s)(h:Ce C X a (NO fun x σ=>Kn K (sem x) σ) σ)(xo:PJ R s X EP E){P:Value→Shared→Prop}
  (hP:∀ra R₁ σ₁ s₁ xv v,R.le R₁→Ar s s₁→At c S d f A X R₁ σ₁ s₁→VH c R₁ s₁.heap xv ra→sem xv=some v→K (.v v) σ₁→P ra s₁):wpAny (model c.prog c.w) A (eval x f.env) P E s:=by
 refine ia.go at_ h E _ xo fun l σ₁ R₁ rv s₁ le sm hk r hl=>?_
 refine Ab (Ae hk) fun xv hx hk=>?_
 refine Ab (Ae hk) fun v hv hk=>?_
 refine Aq r fun m led r0=>?_
 exact hP rv R₁ σ₁ s₁ xv v le sm (at_.up le sm ⟨m,led,r0⟩) (B2 r0 hx hl) hv hk
theorem two{a b:Ak.E}{x y:PySem.Expr}{sem:Val→Val→Option Val}(ia:AE c C d S a x)(ib:AE c C d S b y)(at_:At c S d f A X R σ s)
  (h:Ce C X a (fun la σ=>Ce C X b (fun lb σ=>B9 (look σ.own la) fun x=>B9 (look σ.own lb) fun y=>Kn K (sem x y) σ) σ) σ) (xo:PJ R s X EP E) {P:Value→Value→Shared→Prop}
  (hP:∀ra rb R₂ σ₂ s₂ xv yv v,R.le R₂→Ar s s₂→At c S d f A X R₂ σ₂ s₂→VH c R₂ s₂.heap xv ra→VH c R₂ s₂.heap yv rb→sem xv yv=some v→K (.v v) σ₂→P ra rb s₂):
  wpAny (model c.prog c.w) A (eval x f.env) (fun ra s₁=>wpAny (model c.prog c.w) A (eval y f.env) (fun rb s₂=>P ra rb s₂) E s₁) E s:=by
 refine ia.go at_ h E _ xo fun la σ₁ R₁ ra s₁ le sm hk r hla=>?_
 refine ib.go (at_.up le sm r) hk E _ (xo.up le sm) fun lb σ₂ R₂ rb s₂ le₂ sm₂ hk r₂ hlb=>?_
 refine Ab (Ae hk) fun xv hx hk=>?_
 refine Ab (Ae hk) fun yv hy hk=>?_
 refine Ab (Ae hk) fun v hv hk=>?_
 refine Aq r₂ fun m led r0=>?_
 exact hP ra rb R₂ σ₂ s₂ xv yv v (le.trans le₂) (sm.trans sm₂) ((at_.up le sm r).up le₂ sm₂ ⟨m,led,r0⟩) (B2 r0 hx (hla.up le₂)) (B2 r0 hy hlb) hv hk
theorem CB{x:PySem.Expr}(h:Ag x=true):[x].all Ag=true:=by simp[h]
theorem Ie{x y:PySem.Expr}(h:Ag x=true)(h':Ag y=true):[x,y].all Ag=true:=by simp[h,h']
theorem FT{x y z:PySem.Expr}(h:Ag x=true)(h':Ag y=true)(h'':Ag z=true):[x,y,z].all Ag=true:=by simp[h,h',h'']
theorem Am{K:Val→St→Prop}{l:LV}(h:B8 K l σ):∃x,val? l=some x∧K x σ:=Ae h
theorem Qj(hm:S.Ah=false){k:Nat}(hmth:c.mth k=false)(HC:A4 c C d c.mth)(a:At c S d f A X R σ s){vs:List Val}{rvs:List Value}(hvs:c.Vs R vs rvs)
  (h:C.call k [] vs σ.heap (fun r _ h=>K (.v r) (σ.DI h)) (fun x _ h=>X x (σ.DI h))) {ad:Addr} (had:c.fad[k]? =some ad) {Q:Value→Shared→Prop}
  (hq:∀l σ' R' rv s',R.le R'→Ar s s'→K l σ'→Al c f R' σ' s'.heap→LR c R' l rv→Q rv s'):wpAny (model c.prog c.w) A (call (.ref ad) rvs) Q E s:=by
 refine Aq a.r fun m led r=>?_
 have hsd:R.sd=none:=by
  have:=a.Ah
  rw[hm]at this
  induction q:R.sd using zh with
  |none=>rfl
  |some _=>rw[q]at this;cases this
 refine JN (HC k [] vs σ.heap _ _ ad had h (fun x fs h hx=>a.nv _ _ hx) f A A R σ s m led none rvs ⟨a.G,.refl A,r,hvs,by rw[hmth];rfl,(fun _ _ h=>nomatch h),fun _=>rfl,
  fun j fs' hj=>⟨hj,fun _ _ h=>nomatch h⟩,rfl,fun _ _ h=>nomatch h⟩ _ fun r' fs' h' rv s' f' R' σ' m' led' lv hk sm le r₁ hlook hlr hfz hheap F N=>?_)
 subst hheap
 refine Ao (r.toRelL.leave (sd:=none) (fsl:=σ.self) (hp:=σ'.heap) le r₁.toRelL (fun _ _ h=>nomatch h) (fun h=>absurd hsd h) (fun x dx es n e=>by rw[hsd]at e;cases e) (fun _=>r.self0 hsd) rfl (fun j fs hj=>.inl hj)) fun rn len=>?_
 exact hq (.v r') _ _ rv s' len sm hk ⟨m,led',rn.at_ F N⟩ (.v (FH r₁.toRelL hlook hlr))
theorem B6:∀{fs:List (Option LV)} {l:List (Option Val)},Gs fs=some l→BD l=fs
 |[],l,h=>by cases h;rfl
 |none::r,l,h=>by
  simp only[Gs]at h
  induction q:Gs r using zh with
  |none=>rw[q]at h;cases h
  |some l'=>
   rw[q]at h;cases h
   show none::BD l'=none::r
   rw[B6 q]
 |some (.v x)::r,l,h=>by
  simp only[Gs]at h
  induction q:Gs r using zh with
  |none=>rw[q]at h;cases h
  |some l'=>
   rw[q]at h;cases h
   show some (.v x)::BD l'=some (.v x)::r
   rw[B6 q]
 |some (.loc _)::r,l,h=>by cases h
 |some (.app _)::r,l,h=>by cases h
 |some (.fn _)::r,l,h=>by cases h
theorem Qo{k:Nat}(hmth:c.mth k=true)(HC:A4 c C d c.mth)(a:At c S d f A X R σ s){x dx:Addr}(hsd:R.sd=some (x,dx)){vs:List Val}{rvs:List Value}(hvs:c.Vs R vs rvs)
  (h:B9 (Gs σ.self) fun fs=>C.call k fs vs σ.heap (fun r fs' h=>K (.v r) ⟨σ.loc,σ.own,BD fs',h⟩) (fun x fs' h=>X x ⟨σ.loc,σ.own,BD fs',h⟩)) {ad:Addr} (had:c.fad[k]? =some ad) {Q:Value→Shared→Prop}
  (hq:∀l σ' R' rv s',R.le R'→Ar s s'→K l σ'→Al c f R' σ' s'.heap→LR c R' l rv→Q rv s'):wpAny (model c.prog c.w) A (call (.ref ad) (.ref x::rvs)) Q E s:=by
 refine Aq a.r fun m led r=>?_
 refine Ab (Ae h) fun fs ND h=>?_
 refine Bi (r.self x dx hsd) fun _ z h0=>A6 h0 fun es n z1 z2=>?_
 refine JN (HC k fs vs σ.heap _ _ ad had h (fun x fs h hx=>a.nv _ _ hx) f A A R σ s m led (some (x,dx)) rvs ⟨a.G,.refl A,r,hvs,by rw[hmth];rfl,
  fun x' dx' e=>by
   cases e
   refine⟨z,es,n,z1,?_⟩
   rw[←B6 ND]at z2
   exact Aj.BD (R:=R) (R':=R.call led (some (x,dx))) (fun _ _ y=>y) z2,(fun h=>nomatch h),
  fun j fs' hj=>⟨hj,fun x' dx' e=>by cases e;exact(r.D2 x dx hsd).2.2 j fs' hj⟩,rfl,fun x' dx' e=>by cases e;exact .inl hsd⟩ _ fun r' fs' h' rv s' f' R' σ' m' led' lv hk sm le r₁ hlook hlr hfz hheap F N=>?_)
 subst hheap
 refine Ao (r.toRelL.leave (sd:=some (x,dx)) (fsl:=BD fs') (hp:=σ'.heap) le r₁.toRelL (fun x' dx' e=>by cases e;exact .inl hsd) (fun _=>hsd.symm) (fun x' dx' es n _ _ hF=>C7 r₁.toRelL hfz hF) (fun e=>by rw[hsd]at e;cases e) rfl (fun j fs hj=>.inl hj)) fun rn len=>?_
 exact hq (.v r') _ _ rv s' len sm hk ⟨m,led',rn.at_ F N⟩ (.v (FH r₁.toRelL hlook hlr))
theorem Vy{A₀ A:Around}{f:Fx}{R:Rec}{σ:St}{s:Shared}{m:Str→Option Value}{led:List (Addr×Obj)}(G:Nb c f A₀ d)(nr:Op A₀ A)(r:Rel c f R σ s.heap m led){j:Nat}{fs:List (Option Val)}(hj:σ.heap[j]? =some (Ak.Cell.flds fs)){x dx:Addr}(z:c.Z R x (instObj c.PC dx))(hd:R.ρ[j]? =some dx)
  {es:List DictEntry} {n:Nat} (z1:(dx,dictOf es n)∈led) (z2:Aj c R (BD fs) es) {vs:List Val} {rvs:List Value} (hvs:c.Vs R vs rvs) {mt:Bool} (hmth:mt=true):SO c d f A₀ A R σ s m led (some (x,dx)) vs rvs fs (σ.heap.set j .taken) mt:=
 ⟨G,nr,r,hvs,by rw[hmth];rfl,fun x' dx' e=>by cases e;exact⟨z,es,n,z1,Aj.BD (R:=R) (R':=R.call led (some (x,dx))) (fun _ _ y=>y) z2⟩,(fun h=>nomatch h),
  fun i fs' hi=>by
   by_cases e:j=i
   ·subst e
    rw[Jk (zu.mp hj).1]at hi
    cases hi
   ·rw[Js e]at hi
    exact⟨hi,fun x' dx' e' hi'=>by cases e';exact e (Fv (GB r.D1) hd hi')⟩,jV ..,fun x' dx' e=>by cases e;exact .inr (Av hd)⟩
set_option tactic.hygienic true in
theorem Ql(hm:S.Ah=false){k:Nat}(hmth:c.mth k=true)(HC:A4 c C d c.mth)(a:At c S d f A X R σ s){j:Nat}{x:Addr}{fs:List (Option Val)}(hj:σ.heap[j]? =some (Ak.Cell.flds fs))(ho:c.V R (.obj j) (.ref x)){vs:List Val}{rvs:List Value}(hvs:c.Vs R vs rvs)
  (h:C.call k fs vs (σ.heap.set j .taken) (fun r fs' h=>K (.v r) (σ.DI (h.set j (.flds fs')))) (fun x fs' h=>X x (σ.DI (h.set j (.flds fs'))))) {ad:Addr} (had:c.fad[k]? =some ad) {Q:Value→Shared→Prop}
  (hq:∀l σ' R' rv s',R.le R'→Ar s s'→K l σ'→Al c f R' σ' s'.heap→LR c R' l rv→Q rv s'):wpAny (model c.prog c.w) A (call (.ref ad) (.ref x::rvs)) Q E s:=by
 refine Aq a.r fun m led r=>?_
 have hsd:R.sd=none:=by
  have:=a.Ah
  rw[hm]at this
  induction q:R.sd using zh with
  |none=>rfl
  |some _=>rw[q]at this;cases this
 cases ho with
 |obj z hd=>
  rename_i dx
  refine CS (r.cells j fs hj) fun dx' es n z0 z1 z2=>?_
  rw[hd]at z0;cases z0
  have hρ:=GB r.D1
  refine JN (HC k fs vs (σ.heap.set j .taken) _ _ ad had h (fun x fs h hx=>a.nv _ _ hx) f A A R σ s m led (some (x,dx)) rvs (Vy (A:=A) a.G (.refl A) r hj z hd z1 z2 hvs hmth) _ fun r' fs' h' rv s' f' R' σ' m' led' lv hk sm le r₁ hlook hlr hfz hheap F N=>?_)
  subst hheap
  have hsd':R'.sd=some (x,dx):=le.sd
  refine Bi (r₁.self x dx hsd') fun _ _ h0=>A6 h0 fun es' n' y1 y2=>?_
  obtain⟨rn,len⟩:=r.toRelL.leave (sd:=some (x,dx)) (fsl:=σ.self) (hp:=σ'.heap.set j (.flds fs')) le r₁.toRelL (fun x' dx' e=>by cases e;exact .inr ⟨hsd,Av hd⟩) (fun h=>absurd hsd h) (fun x dx es n e=>by rw[hsd]at e;cases e) (fun _=>r.self0 hsd) (jV ..)
   (fun i fs hi=>by
    by_cases e:j=i
    ·subst e
     have hlt:j < σ'.heap.length:=by
      have:=(zu.mp hi).1
      rwa[jV]at this
     rw[Jk hlt]at hi
     cases hi
     refine .inr ⟨dx,es',n',?_,y1,C7 r₁.toRelL hfz y2,hsd⟩
     refine zg le.ρ fun t ht=>?_
     rw[ht]
     show(R.ρ++t)[j]? =some dx
     rw[zM (zu.mp hd).1];exact hd
    ·rw[Js e]at hi
     exact .inl hi)
  exact hq (.v r') _ _ rv s' len sm hk ⟨m,led',rn.at_ F N⟩ (.v (FH r₁.toRelL hlook hlr))
end
end
end Ak
end
namespace Ak
section
open PySem PySem.W PySem.Calls PyProof.Rows Builtin Builtin.ObjectAttr
noncomputable abbrev KV(id:String)(self:Value):Obj:={cls:=.type "builtin_function_or_method",data:=.fields #[.builtin id,self]}
section
variable {prog:Program}{w:World}{A:Around}{s:Shared}{Q:Value→Shared→Prop}{Ev:Value→Shared→Prop}
theorem Ep{q:Addr}{id:String}{self:Value}{vs:List Value}{b:Builtin}(ho:s.heap.get? q=some (KV id self))(hp:plainId id=true)(hb:entryFor table id=some b)
  (h:wpAny (model prog w) A.in1 (checkBoundCall id ⟨self::vs,[]⟩) (fun _ s₁=>wpAny (model prog w) A.in1 (b ⟨self::vs,[]⟩) (fun fin s'=>∃v,fin=.done (.ret v)∧Q v s') Ev s₁) Ev s):wpAny (model prog w) A (call (.ref q) vs) Q Ev s:=by
 refine JN (codeAny_of_tree ?_)
 show wpAny _ A.in1 (load q >>=_) _ _ s
 refine zn (wpAny_load ho ?_)
 show wpAny _ A.in1 (do checkBoundCall id ⟨self::vs,[]⟩;again (.builtin id ⟨self::vs,[]⟩)) _ _ s
 refine zn (zZ h (fun _ s₁ h₁=>zG (And.intro (plainId_quiet hp _) (codeAny_builtin hb ?_))) fun _ _ h'=>h')
 rw[Around.under_plainId hp]
 exact zZ h₁ (fun fin s' hf=>by refine Ab hf ?_;clear hf;intro v hq1 hv;subst hq1;exact hv) fun _ _ x=>x
theorem callWith_bound{M:Model}{env:Env}{pos:Pos}{q:Addr}{id:String}{self:Value}{x:PySem.Expr}{xs:List PySem.Expr}(hall:(x::xs).all Ag=true)
  (h:wpAny M A (spliced (backTo pos (starEach (x::xs) env))) (fun vs s₁=>s₁.heap.get? q=some (KV id self)∧wpAny M A (call (.ref q) vs) Q Ev s₁) Ev s):wpAny M A (callWith pos (.ref q) [] (backTo pos (starEach (x::xs) env)) []) Q Ev s:=by
 have hp:=hall
 rw[jP,jp]at hp
 rw[Aa hp.1]at h ⊢
 refine callWith_of (P:=fun h=>h.get? q=some (KV id self)) (by show((false || (backTo pos (starEach xs env)).any (·.1)) || false)=false;rw[Aw hp.2];rfl) (fun h hq=>⟨.machine,.inr (.inl rfl),(Looks.ld (part:=none) hq).andThen .now⟩) (evalArgs_plain h)
end
noncomputable def A5(id full:String)(args:Args):Prop:=(match Manifest.signature? id with
 |some sig=>Bind.checkArgs id {sig with full:=full} args
 |none=>unsupported "")=pure ()
theorem IE(a b:Value):A5 "list.append" "list.append" ⟨[a,b],[]⟩:=by
 unfold A5;rw[Jt (id:="list.append") (n:=['d','n','e','p','p','a']) (o:=['t','s','i','l']) (by kernel_rfl) PySem.F.owner_list];kernel_rfl
theorem Lm:builtinKind "list.append"=some .method:=by decide+kernel
section
variable {prog:Program}{w:World}{A:Around}{s:Shared}{Q:Unit→Shared→Prop}{Ev:Value→Shared→Prop}
set_option tactic.hygienic true in
theorem DP{id T full:String}{self:Value}{a:Addr}{vs:List Value}{o:Obj}(hs:self=.ref a)(hT:s.heap.get? a=some o)(hc:o.cls=.type T)(hcl:∀cd,o.data≠ .cls cd)(hk:builtinKind id=some .method)(hok:A5 id full ⟨self::vs,[]⟩)
  (hm:isSubtype (.type T) (.type "module")=pure false) (hv:Manifest.varargsMethods.contains id=false) (hf:s!"{Bind.lastOf T}.{Bind.lastOf id}"=full) (h:Q () s):wpAny (model prog w) A (checkBoundCall id ⟨self::vs,[]⟩) Q Ev s:=by
 subst hs
 unfold A5 at hok
 unfold checkBoundCall
 have ty:s.TypeIs (.ref a) T:=⟨o,hT,hc⟩
 induction hsig:Manifest.signature? id using zh with
 |none=>
  rw[hsig]at hok
  cases hok
 |some sig=>
  rw[hsig]at hok
  rw[hk]
  dsimp only
  rw[zP (show¬(Manifest.AttrKind.method !=.method && Manifest.AttrKind.method !=.classMethod)=true by decide)]
  refine zn (wpAny_isInstance ty hm ?_)
  rw[hv,Bool.or_self,zP jE]
  have hty:∀{Q':Bool→Shared→Prop},Q' false s→wpAny (model prog w) A (isType (.ref a)) Q' Ev s:=by
   intro Q' hq
   unfold isType loadHead
   refine zn (wpAny_loadPart hT ?_)
   refine zG ?_
   split
   ·rename_i cd e;exact absurd e (hcl cd)
   ·exact hq
  refine zn (hty ?_)
  rw[zP jE]
  refine zn (wpAny_typeOf ty ?_)
  show wpAny _ _ (Bind.checkArgs id {sig with full:=s!"{Bind.lastOf T}.{Bind.lastOf id}"} ⟨.ref a::vs,[]⟩) _ _ _
  rw[hf]
  exact J8 hok h
end
section
variable {c:Cx}{C:Cfg}{S:Sx}{d:Nat}{f:Fx}{A:Around}{X:A7→St→Prop}{R R':Rec}{σ σ':St}{s s':Shared}{m:Str→Option Value}{led:List (Addr×Obj)}
theorem GZ{h h':Heap}{led:List (Addr×Obj)}{a:Addr}{o o':Obj}(N:News f.h₀ f.L h led)(hm:(a,o)∈led)(hs:Heap.SameBut a h h')(ho:h'.get? a=some o'):News f.h₀ f.L h' (put a o' led):=by
 intro p hp
 refine Ab (zK.mp hp) fun q hq e=>?_
 have Nq:=N q hq
 have Na:=N _ hm
 by_cases hqa:q.1=a
 ·rw[zX hqa]at e;subst e
  exact⟨ho,Na.2.1,Na.2.2⟩
 ·rw[zP hqa]at e;subst e
  exact⟨(hs.2 _ hqa).trans Nq.1,Nq.2.1,Nq.2.2⟩
theorem Mp(a:At c S d f A X R σ s){k:Nat}{ad q:Addr}{v:Val}{rv:Value}{xs:List Val}(hω:R.ω[k]? =some ad)(hz:c.Z R q (Fh ad))(hv:c.V R v rv)(hx:CW σ.own k=some xs){P:Prop}
  (h:Br (Nat.blt xs.length Az) P False) {Ev Q:Value→Shared→Prop} (hq:∀s',Ar s s'→∀R',Al c f R' (σ.Ky k (xs++[v])) s'.heap→R.le R'→P→Q .none s'):
  wpAny (model c.prog c.w) A (call (.ref q) [rv]) Q Ev s:=by
 refine Aq a.r fun m led r=>?_
 refine AR (r.owns k xs hx) fun ad' vs n o1 o2 o3 o4=>?_
 rw[hω]at o1;cases o1
 have hlt:xs.length < Az:=by
  induction q:Nat.blt xs.length Az using za with
  |false=>rw[q]at h;exact h.elim
  |true=>rwa[T0,JV]at q
 have hP:P:=by
  rw[T0,js hlt]at h;exact h
 have ho:=r.BN o2
 refine Ep (id:="list.append") (self:=.ref ad) (r.get hz) slot_list_append.plain entry_list_append (DP (T:="list") rfl ho rfl (fun _ h=>nomatch h) Lm (IE _ _) (by rw[j9];kernel_rfl) (by decide+kernel) (by decide+kernel) ?_)
 show wpAny _ _ (updateSeq ad (·.push rv) >>=fun _=>ret .none) _ _ s
 have hvl:=o4.length
 have hsz:vs.toArray.size≤sizeLine:=by rw[zY,hvl,←A8];exact o3
 refine zn (wpAny_updateSeq ho rfl (zG ⟨.none,rfl,?_⟩) hsz (by rw[Array.size_push];lia))
 have e:(vs.toArray.push rv)=(vs++[rv]).toArray:=by simp
 have hg:(s.heap.update ad (fun o=>o.mapSeq (·.push rv))).get? ad=some (seqObj false (vs++[rv]) (n+1)):=by
  rw[Heap.get?_update_self _ ho rfl]
  show some (seqObj false vs n |>.mapSeq (·.push rv))=_
  simp[Obj.mapSeq,seqObj]
 have hm:=r.N _ o2
 have hs:Heap.SameBut ad s.heap (s.heap.update ad (fun o=>o.mapSeq (·.push rv))):=Heap.SameBut.update ..
 have N':=GZ r.N o2 hs hg
 exact hq _ AB R ⟨m,_,r.Ko hω (r.F.change hs hm.2.1 hm.2.2) N' (Bv.append o4 (.cons hv .nil)) (by rw[zd,List.length_singleton];lia)⟩ (.refl R) hP
end
theorem Rb:typeLookup (.type "method_descriptor") "__get__"=pure (some (.builtin "method_descriptor.__get__")):=by rw[jC,jb];kernel_rfl
theorem Xx:typeLookup (.type "method_descriptor") "__set__"=pure none:=by rw[jC,jb];kernel_rfl
theorem Xw:typeLookup (.type "method_descriptor") "__delete__"=pure none:=by rw[jC,jb];kernel_rfl
theorem IQ:entryFor table "method_descriptor.__get__"=some Builtin.«method_descriptor.__get__»:=Jy (by kernel_rfl)
theorem KS(a b c:Value):argsOk "method_descriptor.__get__" ⟨[a,b,c],[]⟩:=by unfold argsOk;kernel_rfl
theorem FY:Slot "method_descriptor" "__get__" "method_descriptor.__get__":=
 .of (owner:="method_descriptor") (n:="__get__") Rb (by decide+kernel) (by decide+kernel) (by decide+kernel)
  (by first |exact .inl (by decide+kernel) |exact .inr (by decide+kernel)) (by rw[j9];kernel_rfl)
theorem Iu:typeOf (.builtin "list.append")=pure (.type "method_descriptor"):=PySem.F.type_list_append
section
variable {prog:Program}{w:World}{A:Around}
theorem Ke{a:Addr}{vs:Array Value}{n:Nat}{s:Shared}{Q:Value→Shared→Prop}{Ev:Value→Shared→Prop}(hx:s.heap.get? a=some {cls:=.type "list",data:=.seq vs n})
  (h:Q (.ref s.heap.objs.size) {s with heap:=s.heap.push {cls:=.type "builtin_function_or_method",data:=.fields #[.builtin "list.append",.ref a]}}):
  wpAny (model prog w) A (Builtin.«method_descriptor.__get__» ⟨[.builtin "list.append",.ref a,.type "list"],[]⟩) (fun fin s'=>∃v,fin=.done (.ret v)∧Q v s') Ev s:=by
 obtain⟨hp,g,d,tk,os⟩:=s
 have hT:(⟨hp,g,d,tk,os⟩:Shared).TypeIs (.ref a) "list":=⟨_,hx,rfl⟩
 unfold Builtin.«method_descriptor.__get__»
 repeat (any_goals (first |assumption |wp_step))
 have e1:(".".intercalate ("list.append".cutAt '.').dropLast)="list":=by decide+kernel
 have e2:isSubtype (.type "list") (.type "list")=pure true:=by rw[j9];kernel_rfl
 rw[e1]
 refine J8 e2 ?_
 simp only[Bool.not_true,JU,if_false]
 refine zG ?_
 unfold newFields
 repeat (any_goals (first |assumption |wp_step))
 exact⟨_,rfl,h⟩
theorem K4{a:Addr}{vs:Array Value}{n:Nat}{s:Shared}{R:PySem.Result→Shared→Prop}(hx:s.heap.get? a=some {cls:=.type "list",data:=.seq vs n})
  (h:R (.ok (.ret (.ref s.heap.objs.size))) {s with heap:=s.heap.push {cls:=.type "builtin_function_or_method",data:=.fields #[.builtin "list.append",.ref a]}}):
  codeAny (model prog w) A (.call (.builtin "method_descriptor.__get__") ⟨[.builtin "list.append",.ref a,.type "list"],[]⟩) R s:=by
 refine codeAny_call_builtin FY.plain IQ (FY.check _ _ _ _ _ _ _ _ (by show typeOf _=_;exact Iu) (KS _ _ _) (zZ (Ke (Q:=fun v s'=>R (.ok (.ret v)) s') hx h) (fun fin s' hf=>?_) fun _ _ x=>x))
 refine Ab hf ?_;clear hf;intro v hq1 hv;subst hq1
 exact hv
theorem Gr{a:Addr}{vs:Array Value}{n:Nat}{u:Tok}{s:Shared}{Q:Value→Shared→Prop}{Ev:Value→Shared→Prop}(hx:s.heap.get? a=some {cls:=.type "list",data:=.seq vs n})
  (h:Q (.ref s.heap.objs.size) {s with heap:=s.heap.push {cls:=.type "builtin_function_or_method",data:=.fields #[.builtin "list.append",.ref a]}}):
  wpAny (model prog w) A (Builtin.«object.__getattribute__» ⟨[.ref a,.str "append" u],[]⟩) (fun fin s'=>∃v,fin=.done (.ret v)∧Q v s') Ev s:=by
 obtain⟨hp,g,d,tk,os⟩:=s
 have hT:(⟨hp,g,d,tk,os⟩:Shared).TypeIs (.ref a) "list":=⟨_,hx,rfl⟩
 have f1:=slot_list_append.lookup
 have f2:=Rb
 have f3:=Xx
 have f4:=Xw
 have f5:=Iu
 unfold Builtin.«object.__getattribute__»
 repeat (any_goals (first |assumption |wp_step))
 refine K4 hx ?_
 exact zG ⟨_,rfl,h⟩
theorem GR{a:Addr}{vs:Array Value}{n:Nat}{s:Shared}{Q:Value→Shared→Prop}{Ev:Value→Shared→Prop}(hx:s.heap.get? a=some {cls:=.type "list",data:=.seq vs n})
  (h:Q (.ref s.heap.objs.size) {s with heap:=s.heap.push {cls:=.type "builtin_function_or_method",data:=.fields #[.builtin "list.append",.ref a]},toks:=s.toks+1}):
  wpAny (model prog w) A (getAttr (.ref a) "append" true) Q Ev s:=by
 obtain⟨hp,g,d,tk,os⟩:=s
 have hT:∀tk',(⟨hp,g,d,tk',os⟩:Shared).TypeIs (.ref a) "list":=fun _=>⟨_,hx,rfl⟩
 have f3:=PySem.F.slot_list_getattribute.lookup
 have f4:=PySem.F.slot_list_getattribute.bind (.ref a)
 unfold getAttr getAttrBy
 repeat (any_goals (first |assumption |exact hT _ |((with_reducible show wpAny _ _ (call (Value.builtin "list.__getattribute__") _ _) _ _ _);refine JM PySem.F.slot_list_getattribute (hT _) am_entry_list_getattribute (Gr hx ?_) (PySem.F.args_list_getattribute_2 _ _)) |wp_step))
end
theorem TL(c:Cx):SW c:=by
 intro S d f A X R σ s k a at_ hω Ev Q hq
 refine Aq at_.r fun m led r=>?_
 have hlt:k < σ.own.length:=by
  have:=(zu.mp hω).1
  rwa[r.oln,Cm]at this
 refine AR (r.owns k σ.own[k] (by rw[DB];simp[hlt])) fun ad' vs n o1 o2 o3 o4=>?_
 rw[hω]at o1;cases o1
 refine GR (r.BN o2) ?_
 refine Gw (r.frozen (r.F.push (Fh a)) (JZ r.F r.N (Fh a)) (fun p hp=>jv (r.N p hp).1)) fun R' le r' hz _ _=>?_
 exact hq R' _ _ le (An (zV _)) ⟨_,_,r'⟩ (.inr hz)
end
end Ak
section
open PySem PySem.W PySem.Calls PyProof.Rows
namespace Ak
section
structure Tb where
 names:List Str
 attrs:List Str
 self:Str
 Ah:Bool
 cells:List Str
 gls:List Str
 gl:List (Str×Val)
 Dj:List Str
 mtn:Nat
 cls:Str
 cv:Str
 csc:Scope
 ps:Nat
noncomputable def AH:List Str→Nat→Str
 |[],_=>Str.empty
 |x::_,0=>x
 |_::r,k+1=>AH r k
noncomputable def eQ(n:Nat):Pos:=⟨n / 1000000000,n / 1000000 % 1000,n / 1000 % 1000+n / 1000000000,n % 1000⟩
noncomputable def Tb.p(T:Tb)(k:Nat):Pos:=eQ (T.ps / 10 ^ (12*k) % 1000000000000)
noncomputable def Tb.q(T:Tb)(i k:Nat):Pos:=⟨(T.p i).line,(T.p i).col,(T.p k).line,(T.p i).endCol⟩
noncomputable def constOf:Val→Const
 | .bool b=>.bool b
 | .int i=>.int i
 | .str x=>.str ⟨x.toArray⟩
 |_=>.none
noncomputable abbrev kj(n:Str)(p:Pos):PySem.Expr:=.Name n p
noncomputable def Ei(T:Tb)(n:Str)(xs:List PySem.Expr)(k:Nat):PySem.Expr:=.Call (.Name n (T.p (k+1))) xs [] (T.p k)
noncomputable def DN(T:Tb)(o:PySem.Expr)(n:Str)(xs:List PySem.Expr)(k:Nat):PySem.Expr:=.Call (.Attribute o n (T.q (k+1) k)) xs [] (T.p k)
noncomputable def g1:P1→Str
 | .len=>"len"
 | .sum=>"sum"
 | .tuple=>"tuple"
 | .squeeze=>"trans"
 | .bs=>"_twin_re_7"
 | .isint=>"isinstance"
 | .syn1=>"_synchre"
 |_=>""
noncomputable def g2:P2→Str
 | .junk=>"_junkre"
 | .syn2=>"_synchre"
 |_=>""
noncomputable def g3:P3→Str
 | .chew=>"_chew_ordinaryre"
 | .strre=>"_match_stringre"
 | .syn3=>"_synchre"
 |_=>""
noncomputable def f1(T:Tb)(o:P1)(x:PySem.Expr)(k:Nat):PySem.Expr:=match o with
 | .neg=>.UnaryOp .USub x (T.p k)
 | .isnone=>.Compare x [.Is] [.Constant .none 0 (T.p (k+1))] (T.p k)
 | .notnone=>.Compare x [.IsNot] [.Constant .none 0 (T.p (k+1))] (T.p k)
 | .mend=>DN T x "end" [] k
 | .mstart=>DN T x "start" [] k
 | .mspan=>DN T x "span" [] k
 | .squeeze=>DN T x "translate" [.Name (g1 .squeeze) (T.p (k+2))] k
 | .bs=>DN T (.Name (g1 .bs) (T.p (k+2))) "match" [x] k
 | .isint=>Ei T (g1 .isint) [x,.Name "int" (T.p (k+2))] k
 |o=>Ei T (g1 o) [x] k
noncomputable def f2(T:Tb)(o:P2)(x y:PySem.Expr)(k:Nat):PySem.Expr:=match GJ o with
 |some op=>.Compare x [op] [y] (T.p k)
 |none=>match HV o with
  |some op=>.BinOp x op y (T.p k)
  |none=>match o with
   | .idx=>.Subscript x y (T.p k)
   |o=>Ei T (g2 o) [x,y] k
noncomputable def NH :E→Bool
 | .lit .none=>true
 |_=>false
noncomputable def MG(e:E)(x:PySem.Expr):Option PySem.Expr:=cond (NH e) none (some x)
noncomputable def f3(T:Tb)(o:P3)(b c:E)(x y z:PySem.Expr)(k:Nat):PySem.Expr:=match o with
 | .slc=>.Subscript x (.Slice (MG b y) (MG c z) none (T.p (k+1))) (T.p k)
 |o=>Ei T (g3 o) [x,y,z] k
mutual
noncomputable def sz:E→Nat
 | .lit _=>1
 | .glob _ _=>1
 | .loc _=>1
 | .sat _=>2
 | .p1 _ a=>sz a+3
 | .p2 _ a b=>sz a+sz b+2
 | .p3 _ a b c=>sz a+sz b+sz c+2
 | .p4 _ a b c d=>sz a+sz b+sz c+sz d+2
 | .m2 _ a b=>sz a+sz b+2
 | .m3 _ a b c=>sz a+sz b+sz c+2
 | .bl _ es=>V6 es+1
 | .not_ a=>sz a+1
 | .ite t a b=>sz t+sz a+sz b+1
 | .seq _ es=>V6 es+1
 | .nlst es=>V6 es+1
 | .app a=>sz a+1
 | .push _ x=>sz x+2
 | .apnd _ x=>sz x+3
 | .fcall _ es=>V6 es+2
 | .scall _ es=>V6 es+3
 | .mcall _ _ es=>V6 es+3
 | .new es=>V6 es+2
 | .icall _ x=>sz x+2
 | .wal _ x=>sz x+2
noncomputable def V6:Es→Nat
 | .nil=>0
 | .cons e es=>sz e+V6 es
end
section
variable (T:Tb)
mutual
noncomputable def Ca:E→Nat→PySem.Expr
 | .lit v,k=>.Constant (constOf v) 0 (T.p k)
 | .glob i _,k=>.Name (AH (T.gl.map (·.1)) i) (T.p k)
 | .loc i,k=>.Name (AH T.names i) (T.p k)
 | .sat i,k=>.Attribute (.Name T.self (T.p (k+1))) (AH T.attrs i) (T.p k)
 | .p1 o a,k=>f1 T o (Ca a (k+3)) k
 | .p2 o a b,k=>f2 T o (Ca a (k+2)) (Ca b (k+2+sz a)) k
 | .p3 o a b c,k=>f3 T o b c (Ca a (k+2)) (Ca b (k+2+sz a)) (Ca c (k+2+sz a+sz b)) k
 | .p4 o a b c d,k=>DN T (Ca a (k+2)) (match o with | .find=>"find" | .rfind=>"rfind") [Ca b (k+2+sz a),Ca c (k+2+sz a+sz b),Ca d (k+2+sz a+sz b+sz c)] k
 | .m2 _ a b,k=>DN T (Ca a (k+2)) "expandtabs" [Ca b (k+2+sz a)] k
 | .m3 o a b c,k=>DN T (Ca a (k+2)) (match o with | .find=>"find" |_=>"replace") [Ca b (k+2+sz a),Ca c (k+2+sz a+sz b)] k
 | .bl o es,k=>.BoolOp (cond o .And .Or) (Ed es (k+1)) (T.p k)
 | .not_ a,k=>.UnaryOp .Not (Ca a (k+1)) (T.p k)
 | .ite t a b,k=>.IfExp (Ca t (k+1)) (Ca a (k+1+sz t)) (Ca b (k+1+sz t+sz a)) (T.p k)
 | .seq t es,k=>cond t (.Tuple (Ed es (k+1)) 0 (T.p k)) (.List (Ed es (k+1)) (T.p k))
 | .nlst es,k=>.List (Ed es (k+1)) (T.p k)
 | .app a,k=>.Attribute (Ca a (k+1)) "append" (T.p k)
 | .push f x,k=>Ei T (AH T.names f) [Ca x (k+2)] k
 | .apnd l x,k=>DN T (.Name (AH T.names l) (T.p (k+2))) "append" [Ca x (k+3)] k
 | .fcall f es,k=>Ei T (AH T.Dj f) (Ed es (k+2)) k
 | .scall f es,k=>DN T (.Name T.self (T.p (k+2))) (AH T.Dj f) (Ed es (k+3)) k
 | .mcall f j es,k=>DN T (.Name (AH T.names j) (T.p (k+2))) (AH T.Dj f) (Ed es (k+3)) k
 | .new es,k=>Ei T T.cls (Ed es (k+2)) k
 | .icall f x,k=>Ei T (AH T.names f) [Ca x (k+2)] k
 | .wal i x,k=>.NamedExpr (.Name (AH T.names i) (T.p (k+1))) (Ca x (k+2)) (T.p k)
noncomputable def Ed:Es→Nat→List PySem.Expr
 | .nil,_=>[]
 | .cons e es,k=>Ca e k::Ed es (k+sz e)
end
end
end
section
set_option maxHeartbeats 4000000
noncomputable def Ly:Es→Nat
 | .nil=>0
 | .cons _ es=>Ly es+1
noncomputable def Vt(e:E):Bool:=Nat.beq e.ctorIdx 2
noncomputable def isNil:Es→Bool
 | .nil=>true
 |_=>false
noncomputable def Dz(e:E):Bool:= !cin e.ctorIdx [4,5,18,21]
theorem Ai(T:Tb)(e:E)(k:Nat):Ag (Ca T e k)=true:=by
 induction e using E.casesOn with
 |p1 o a=>cases o <;>rfl
 |p2 o a b=>cases o <;>rfl
 |p3 o a b c=>cases o <;>rfl
 |seq t es=>induction t using za <;>rfl
 |_=>rfl
theorem BR(T:Tb):∀(es:Es) (k:Nat),(Ed T es k).all Ag=true
 | .nil,_=>rfl
 | .cons e es,k=>by
  show(Ag (Ca T e k) && (Ed T es (k+sz e)).all Ag)=true
  rw[Ai,BR];rfl
theorem Cn(T:Tb){e:E}(k:Nat)(h:Dz e=true):CZ (Ca T e k):=by
 induction e using E.casesOn with
 |fcall f es=>exact ft h
 |new es=>exact ft h
 |p1 o a=>exact ft h
 |p2 o a b=>exact ft h
 |p3 o a b c=>cases o <;>exact fun _ _ _=>rfl
 |seq t es=>induction t using za <;>exact fun _ _ _=>rfl
 |_=>exact fun _ _ _=>rfl
theorem Kz(T:Tb)(e:E)(k:Nat):Ew (Ca T e k)=false:=by
 induction e using E.casesOn with
 |p1 o a=>cases o <;>rfl
 |p2 o a b=>cases o <;>rfl
 |p3 o a b c=>cases o <;>rfl
 |seq t es=>induction t using za <;>rfl
 |_=>rfl
theorem EU(T:Tb):∀(es:Es) (k:Nat),(Ed T es k).length=Ly es
 | .nil,_=>rfl
 | .cons e es,k=>zB (· +1) (EU T es (k+sz e))
end
section
set_option maxHeartbeats 4000000
section
variable {c:Cx}{C:Cfg}{S:Sx}{d:Nat}{f:Fx}{A:Around}{X:A7→St→Prop}{R R':Rec}{σ σ':St}{s s':Shared}{m:Str→Option Value}{led:List (Addr×Obj)}{EP:HN}{K:LV→St→Prop}{Ev:Value→Shared→Prop}{Q:Value→Shared→Prop}
noncomputable def Nx(c:Cx)(f:Fx)(R:Rec)(s:Shared)(K:LV→St→Prop)(Q:Value→Shared→Prop):Prop:=
 ∀l σ' R' rv s',R.le R'→Ar s s'→K l σ'→Al c f R' σ' s'.heap→LR c R' l rv→Q rv s'
theorem Nx.up{R R':Rec}{s s':Shared}(h:Nx c f R s K Q)(le:R.le R')(sm:Ar s s'):Nx c f R' s' K Q:=
 fun l σ' R'' rv s'' le' sm'=>h l σ' R'' rv s'' (le.trans le') (sm.trans sm')
theorem L3{e:E}{x:PySem.Expr}(hi:∀env whole,isTrue x env whole=(do let v ←whole;standAt x.pos;holding [v] (truthy v)))(he:∀{X:A7→St→Prop} {σ:St} {K:Bool→St→Prop},Ec C X e K σ→Ce C X e (Gv K) σ)
  (ie:AE c C d S e x):DM c C d S e x:=by
 intro f A X EP R σ s K a h Ev Q xo hq
 refine isTrue_plain (ie.go a (he h) Ev _ xo fun l σ₁ R₁ rv s₁ le sm hk r hl=>?_) (hi _ _)
 exact Fg (a.up le sm r) hl hk fun b s' sm' r' hb=>hq b σ₁ R₁ s' le (sm.trans sm') hb r'
theorem idx_int{rx:Rx}{x y v:Val}(h:AG rx .idx x y=some v):∃i,y=.int i:=by
 induction y using Val.casesOn with
 |int i=>exact⟨i,rfl⟩
 |_=>induction x using Val.casesOn <;>exact nz h
theorem QK{x v:Val}{b:Bool}(h:QJ b x=some v):(x=.none∧v=.bool b)∨((∀{c:Cx} {R:Rec} {h:Heap} {rv:Value},VH c R h x rv→rv≠ .none)∧v=.bool !b):=by
 induction x using Val.casesOn with
 |none=>exact .inl ⟨rfl,(ze h).symm⟩
 |seq _ _=>exact nz h
 |obj _=>exact nz h
 |bool _=>exact .inr ⟨fun y e=>(by rw[y.KY]at e;exact nomatch e),(ze h).symm⟩
 |int _=>exact .inr ⟨fun y e=>(by refine zg y.I3 fun t h=>?_;rw[h]at e;exact nomatch e),(ze h).symm⟩
 |str _=>exact .inr ⟨fun y e=>(by refine Ab y.LY fun t h _=>?_;rw[h]at e;exact nomatch e),(ze h).symm⟩
 |mt _ _=>exact .inr ⟨fun y e=>(by cases y with |of y=>cases y;exact nomatch e),(ze h).symm⟩
theorem VH.VD{x:Val}{rv:Value}{h:Heap}(y:VH c R h x rv)(e:x=.none):rv=.none:=by subst e;cases y with |of y=>cases y;rfl
theorem d8(r:Al c f R σ s.heap){x v:Val}{rv:Value}(hx:VH c R s.heap x rv)(h:QJ true x=some v):AL c f A R σ s (compareOp .Is rv .none) v:=by
 rcases QK h with⟨e,rfl⟩ |⟨e,rfl⟩
 ·rw[hx.VD e];exact AL.plain r fun Ev Q hq=>is_none_none (hq _ s.toks (.bool _))
 ·exact AL.plain r fun Ev Q hq=>is_none_ne (e hx) (hq _ s.toks (.bool _))
theorem N2(r:Al c f R σ s.heap){x v:Val}{rv:Value}(hx:VH c R s.heap x rv)(h:QJ false x=some v):AL c f A R σ s (compareOp .IsNot rv .none) v:=by
 rcases QK h with⟨e,rfl⟩ |⟨e,rfl⟩
 ·rw[hx.VD e];exact AL.plain r fun Ev Q hq=>isnot_none_none (hq _ s.toks (.bool _))
 ·exact AL.plain r fun Ev Q hq=>isnot_none_ne (e hx) (hq _ s.toks (.bool _))
theorem gG(a:At c S d f A X R σ s){vs:List Val}{rvs:List Value}(hvs:c.Vs R vs rvs)(hl:vs.length≤Az):AL c f A R σ s (newTuple rvs) (.seq true vs):=by
 refine AL.made a.r fun Ev Q m led r0 hq=>?_
 refine newTuple_N r0.F r0.N (fun h' F N=>?_) (by rw[hvs.length,←A8];exact hl)
 exact hq _ _ _ h' s.toks F N (fun p hp=>jv (r0.N p hp).1) fun R' le hz=>.seq (.of (.inr hz)) hl (Vs.up le hvs)
theorem aC(a:At c S d f A X R σ s){vs:List Val}{rvs:List Value}(hvs:c.Vs R vs rvs)(hl:vs.length≤Az):AL c f A R σ s (newList rvs) (.seq false vs):=by
 refine AL.made a.r fun Ev Q m led r0 hq=>?_
 refine newList_K r0.F r0.N (fun l h' F N hf=>?_) (by rw[hvs.length,←A8];exact hl)
 exact hq _ _ _ h' s.toks F N hf fun R' le hz=>.seq (.of (.inr hz)) hl (Vs.up le hvs)
theorem Iw{x:PySem.Expr}{n:Str}{p:Pos}(hb:CZ x)(h:wpAny (model c.prog c.w) A (eval x f.env) (fun o s₁=>∃a,o=.ref a∧wpAny (model c.prog c.w) A (getAttr (.ref a) n true) Q Ev s₁) Ev s)
  (hn:∀{l:Addr} (r:Value),letTemporaryGo x (.ref l) r=pure ()):wpAny (model c.prog c.w) A (eval (.Attribute x n p) f.env) Q Ev s:=by
 show wpAny _ _ (attributeBase x n f.env (eval x f.env) >>=_) _ _ _
 rw[hb]
 refine zn (zZ h (fun o s₁ h₁=>?_) fun _ _ x=>x)
 refine Ab h₁ ?_;clear h₁;intro a hq1 h₁;subst hq1
 refine zn (JQ (zn (jj (zZ h₁ (fun r s₂ h₂=>?_) fun _ _ x=>x))))
 refine zn ?_
 rw[hn]
 exact zG (zG h₂)
theorem OD(a:At c S d f A X R σ s){k:Nat}{ad:Addr}{v:Val}{rv:Value}{xs:List Val}(hω:R.ω[k]? =some ad)(hv:c.V R v rv)(hx:CW σ.own k=some xs){P:Prop}
  (h:Br (Nat.blt xs.length Az) P False) (hq:∀s',Ar s s'→∀R',Al c f R' (σ.Ky k (xs++[v])) s'.heap→R.le R'→P→Q .none s'):
  wpAny (model c.prog c.w) A (call (.builtin "list.append") [.ref ad,rv]) Q Ev s:=by
 refine Aq a.r fun m led r=>?_
 refine AR (r.owns k xs hx) fun ad' vs n o1 o2 o3 o4=>?_
 rw[hω]at o1;cases o1
 refine Ao (BQ h) fun hlt hP=>?_
 have hlt:=DG hlt
 have e:(vs.toArray.push rv)=(vs++[rv]).toArray:=List.push_toArray ..
 refine append_K (n:=n) r.F r.N (news':=put ad (seqObj false (vs++[rv]) (n+1)) led) ?_ (fun h' F N=>?_) (by rw[zY,o4.length,←A8];exact o3)
 ·rw[e];exact Ok _ o2 r.nd
 ·exact hq _ AB R ⟨m,_,r.Ko hω F N (Bv.append o4 (.cons hv .nil)) (by rw[zd];exact hlt)⟩ (.refl R) hP
theorem Ub(r:Rel c f R σ s.heap m led){k:Nat}{ad:Addr}(hω:R.ω[k]? =some ad){pl:Sem Bool}{Q:Value×List Value→Shared→Prop}(h:Q (.builtin "list.append",[.ref ad]) s):
  wpAny (model c.prog c.w) A (getMethod (.ref ad) "append" pl) Q Ev s:=by
 have hlt:k < σ.own.length:=by
  have:=(zu.mp hω).1
  rwa[r.oln,Cm]at this
 refine AR (r.owns k σ.own[k] (by rw[DB];exact jc hlt)) fun ad' vs n o1 o2 o3 o4=>?_
 rw[hω]at o1;cases o1
 exact listMethod_K r.N o2 slot_list_append (by kernel_rfl) h
theorem VH.atom{h:Heap}{x:Val}{rv:Value}(y:VH c R h x rv)(hx:isAtom x=true):c.V R x rv:=by
 induction y using VH.casesOn with
 |of y=>exact y
 |own _ _ _=>exact ft hx
theorem RY{M:Model}{x:Str}{tk:Tok}{pl:Sem Bool}{Q:Value×List Value→Shared→Prop}(h:Q (.builtin "str.replace",[.str x tk]) s):wpAny M A (getMethod (.str x tk) "replace" pl) Q Ev s:=
 GM.of _ (Jr _ _ _) PySem.F.slot_str_replace PySem.F.type_str_replace (fun _ h=>nomatch h) h
theorem RU{M:Model}{env:Env}{pos r r':Pos}{id:String}{v:Value}{sa sb:Str}{k k':Nat}
  (h:wpAny M A (call (.builtin id) [v,.str sa s.toks,.str sb (s.toks+1)]) Q Ev {s with heap:=s.heap,toks:=s.toks+1+1}):
  wpAny M A (callWith pos (.builtin id) [v] (backTo pos (starEach [.Constant (.str sa) k r,.Constant (.str sb) k' r'] env)) []) Q Ev s:=by
 refine jQ ?_ (Aa rfl) (Aw (xs:=[.Constant (.str sb) k' r']) rfl)
 refine je (J0 ?_) (Aa rfl)
 refine je (J0 ?_) (Aa rfl)
 exact jT h
theorem AL.iO{t:Sem Value}{v:Val}{K:Bool→St→Prop}{Q:Bool→Shared→Prop}{R₀:Rec}{s₀:Shared}(h:AL c f A R σ s t v)(a:At c S d f A X R σ s)(hk:Gv K (.v v) σ)(le:R₀.le R)(sm:Ar s₀ s)
  (hq:∀b σ' R' s',R₀.le R'→Ar s₀ s'→K b σ'→Al c f R' σ' s'.heap→Q b s'):wpAny (model c.prog c.w) A t (fun v s₁=>wpAny (model c.prog c.w) A (truthy v) Q Ev s₁) Ev s:=
 h Ev _ fun R' rv s' le' sm' r hv=>Fg (a.up le' sm' r) (.v hv) hk fun b s'' sm'' r'' hb=>hq b σ R' s'' (le.trans le') ((sm.trans sm').trans sm'') hb r''
section
variable {e e' e'' e3:E}{x y z w:PySem.Expr}{es:Es}{xs:List PySem.Expr}{p q q':Pos}
theorem Tl{k:Nat}:AE c C d S (.lit .none) (.Constant .none k p):=fun _ _ _ _ _ _ _ _ a h _ _ _ hq=>jZ (done a h (.v .none) (.refl _) rfl hq)
theorem Ti{k:Nat}{b:Bool}:AE c C d S (.lit (.bool b)) (.Constant (.bool b) k p):=fun _ _ _ _ _ _ _ _ a h _ _ _ hq=>wpAny_Constant_bool (done a h (.v (.bool _)) (.refl _) rfl hq)
theorem WG{k:Nat}{i:Int}:AE c C d S (.lit (.int i)) (.Constant (.int i) k p):=fun _ _ _ _ _ _ _ _ a h _ _ _ hq=>wpAny_Constant_int (done a h (.v (.int _ _)) (An (zV _)) rfl hq)
theorem WR{k:Nat}{t:Txt}(hl:t.length≤Az):AE c C d S (.lit (.str t)) (.Constant (.str ⟨t.toArray⟩) k p):=fun _ _ _ _ _ _ _ _ a h _ _ _ hq=>J0 (done a h (.v (.str _ _ hl)) (An (zV _)) rfl hq)
theorem Tj(ok:EJ c){i:Nat}{n:Str}{v:Val}(hg:(n,v)∈c.gl)(hk:S.cs.names.lookup n=some .globalImplicit)(hd:(n==("__debug__":Str))=false):AE c C d S (.glob i v) (.Name n p):=by
 intro f A X EP R σ s K a h Ev Q xo hq
 refine Ab (ok.gl _ _ hg) fun rv e hv=>?_
 exact Er a ⟨e,hk,hd⟩ (done a h (.v (hv R)) (.refl _) rfl hq)
theorem WI{k:Nat}{n:Str}(hn:S.names[k]? =some n):AE c C d S (.loc k) (.Name n p):=by
 intro f A X EP R σ s K a h Ev Q xo hq
 refine Ab (Ae h) fun l hl h=>?_
 refine Aq a.r fun m led r=>?_
 exact Ch a.G a.NM r (by rw[a.names];exact hn) hl fun rv hlr=>done a h hlr (.refl _) rfl hq
theorem NC(a:At c S d f A X R σ s)(hm:S.Ah=true):∃x dx,R.sd=some (x,dx):=by
 obtain⟨⟨x,dx⟩,h⟩:∃p,R.sd=some p:=JX.mp (by rw[a.Ah,hm])
 exact⟨x,dx,h⟩
theorem WP(ok:EJ c){k:Nat}{n:Str}(hm:S.Ah=true)(hk:S.cs.names.lookup c.self=some .local)(hd:(c.self==("__debug__":Str))=false)(hn:c.attrs[k]? =some n):AE c C d S (.sat k) (.Attribute (.Name c.self p) n q):=by
 intro f A X EP R σ s K a h Ev Q xo hq
 refine Ab (Ae h) fun l hl h=>?_
 refine Aq (NC a hm) fun x dx hsd=>?_
 exact Attribute_any_ (Fe a hsd hk hd (Tr ok a hsd hn hl fun rv s' sm r hlr=>hq l σ R rv s' (.refl R) sm h r hlr)) rfl
theorem Qn(i:AE c C d S e x):AE c C d S (.p1 .neg e) (.UnaryOp .USub x p):=fun _ _ _ _ _ _ _ _ a h _ _ xo hq=>
 wpAny_UnaryOp (one i a h xo fun _ _ _ _ _ _ le sm at₁ hx hv hk=>(d6 at₁.r hx hv).to hk le sm hq)
theorem WT{k:Nat}{n:Str}(hn:S.names[k]? =some n)(hf:S.cs.names.lookup n≠some .free)(i:AE c C d S e x):AE c C d S (.wal k e) (.NamedExpr (.Name n q) x p):=by
 intro f A X EP R σ s K a h Ev Q xo hq
 refine wpAny_NamedExpr (i.go a h Ev _ xo fun l σ₁ R₁ rv s₁ le sm hk r hl=>?_)
 have a₁:=a.up le sm r
 refine Aq r fun m led r0=>?_
 exact wpAny_assign_Name (BS a₁.G a₁.NM r0 (by rw[a₁.names];exact hn) (by rw[a₁.cs];exact hf) hl fun s' sm' r'=>hq l (σ₁.DD k l) R₁ rv s' le (sm.trans sm') hk r' hl)
theorem OE{k:Nat}(i:AE c C d S e x):AE c C d S (.p1 .isnone e) (.Compare x [.Is] [.Constant .none k q] p):=fun _ _ _ _ _ _ _ _ a h _ _ xo hq=>
 wpAny_Compare1 (one i a h xo fun _ _ _ _ _ _ le sm at₁ hx hv hk=>jZ ((d8 at₁.r hx hv).to hk le sm hq)) rfl
theorem Y3(i:AE c C d S e x):DM c C d S (.p1 .neg e) (.UnaryOp .USub x p):=L3 (fun _ _=>rfl) (fun h=>h) (Qn i)
theorem Ph{k:Nat}(i:AE c C d S e x):DM c C d S (.p1 .isnone e) (.Compare x [.Is] [.Constant .none k q] p):=fun _ _ _ _ _ _ _ K a h _ _ xo hq=>
 wpAny_isTrue_Compare1 (one i a (K:=Gv K) h xo fun _ _ _ _ _ _ le sm at₁ hx hv hk=>jZ ((d8 at₁.r hx hv).iO at₁ hk le sm hq)) rfl
theorem Ms{k:Nat}(i:AE c C d S e x):AE c C d S (.p1 .notnone e) (.Compare x [.IsNot] [.Constant .none k q] p):=fun _ _ _ _ _ _ _ _ a h _ _ xo hq=>
 wpAny_Compare1 (one i a h xo fun _ _ _ _ _ _ le sm at₁ hx hv hk=>jZ ((N2 at₁.r hx hv).to hk le sm hq)) rfl
theorem M3{k:Nat}(i:AE c C d S e x):DM c C d S (.p1 .notnone e) (.Compare x [.IsNot] [.Constant .none k q] p):=fun _ _ _ _ _ _ _ K a h _ _ xo hq=>
 wpAny_isTrue_Compare1 (one i a (K:=Gv K) h xo fun _ _ _ _ _ _ le sm at₁ hx hv hk=>jZ ((N2 at₁.r hx hv).iO at₁ hk le sm hq)) rfl
theorem kU(a:At c S d f A X R σ s):A.units+64 < cLine:=by have:=a.G.units;lia
theorem WE{o:P2}{op:CmpOp}(ho:GJ o=some op)(hs:Ew y=false)(i:AE c C d S e x)(j:AE c C d S e' y):AE c C d S (.p2 o e e') (.Compare x [op] [y] p):=fun _ _ _ _ _ _ _ _ a h _ _ xo hq=>
 wpAny_Compare1 (two i j a h xo fun _ _ _ _ _ _ _ _ le sm at₂ hx hy hv hk=>(VW (kU at₂) at₂.r ho hx hy hv).to hk le sm hq) (HU hs)
theorem Y1{o:P2}{op:CmpOp}(ho:GJ o=some op)(hs:Ew y=false)(i:AE c C d S e x)(j:AE c C d S e' y):DM c C d S (.p2 o e e') (.Compare x [op] [y] p):=fun _ _ _ _ _ _ _ K a h _ _ xo hq=>
 wpAny_isTrue_Compare1 (two i j a (K:=Gv K) h xo fun _ _ _ _ _ _ _ _ le sm at₂ hx hy hv hk=>(VW (kU at₂) at₂.r ho hx hy hv).iO at₂ hk le sm hq) (HU hs)
theorem WD{o:P2}{op:Operator}(ho:HV o=some op)(i:AE c C d S e x)(j:AE c C d S e' y):AE c C d S (.p2 o e e') (.BinOp x op y p):=fun _ _ _ _ _ _ _ _ a h _ _ xo hq=>
 wpAny_BinOp (two i j a h xo fun _ _ _ _ _ _ _ _ le sm at₂ hx hy hv hk=>(dT at₂.r ho hx hy hv).to hk le sm hq)
theorem WF(i:AE c C d S e x)(j:AE c C d S e' y):AE c C d S (.p2 .idx e e') (.Subscript x y p):=fun _ _ _ _ _ _ _ _ a h _ _ xo hq=>
 Subscript_ (two i j a h xo fun _ _ _ _ _ _ _ _ le sm at₂ hx hy hv hk=>by
  refine zg (idx_int hv) fun i hq1=>?_;subst hq1
  refine zg hy.I3 fun t hq1=>?_;subst hq1
  exact(dY at₂.r hx hv).to hk le sm hq)
theorem Kp{h:Heap}{v:Val}{rv:Value}{n:Nat}{i:Int}(hv:VH c R h v rv)(hi:Da n v=some i∨DW v=some i):c.V R v rv:=by
 induction hv using VH.casesOn with
 |of y=>exact y
 |own _ _ _=>rcases hi with hi |hi <;>exact nz hi
theorem VC{e:E}(h:NH e=true):e=.lit .none:=by
 induction e using E.casesOn with
 |lit v=>induction v using Val.casesOn with
  |none=>rfl
  |_=>exact ft h
 |_=>exact ft h
theorem VV{o:Option PySem.Expr}(h:o=MG e x)(i:AE c C d S e x):Zp c C d S e o:=by
 intro f A X EP R σ s K a hw Ev Q xo hq
 subst h
 unfold MG
 induction hn:NH e using za with
 |false=>exact wpAny_evalPart_some (i.go a hw Ev Q xo hq)
 |true=>
  rw[VC hn]at hw
  exact wpAny_evalPart_none (done a hw (.v .none) (.refl _) rfl hq)
theorem HY{o o':Option Int}{k:Int→Int→Val}{v:Val}(h:both o o' k=some v):∃a b,o=some a∧o'=some b∧v=k a b:=by
 induction o using zh with
 |none=>exact nz h
 |some a=>induction o' using zh with
  |none=>exact nz h
  |some b=>exact⟨a,b,rfl,rfl,(ze h).symm⟩
theorem WQ{lo hi:Option PySem.Expr}(i:AE c C d S e x)(j:Zp c C d S e' lo)(k:Zp c C d S e'' hi):AE c C d S (.p3 .slc e e' e'') (.Subscript x (.Slice lo hi none q) p):=by
 intro f A X EP R σ s K a h Ev Q xo hq
 refine Subscript_ (i.go a h Ev _ xo fun la σ₁ R₁ ra s₁ le sm hk r hla=>?_)
 refine wpAny_Slice (j.go (a.up le sm r) hk Ev _ (xo.up le sm) fun lb σ₂ R₂ rb s₂ le₂ sm₂ hk r₂ hlb=>?_)
 refine k.go ((a.up le sm r).up le₂ sm₂ r₂) hk Ev _ ((xo.up le sm).up le₂ sm₂) fun lc σ₃ R₃ rc s₃ le₃ sm₃ hk r₃ hlc=>?_
 refine wpAny_evalPart_none ?_
 refine Ab (Ae hk) fun xv hx hk=>?_
 refine Ab (Ae hk) fun yv hy hk=>?_
 refine Ab (Ae hk) fun zv hz hk=>?_
 refine Ab (Ae hk) fun v hv hk=>?_
 have hq':Nx c f R s K Q:=hq
 have hq':=((hq'.up le sm).up le₂ sm₂).up le₃ sm₃
 refine Aq r₃ fun m led r0=>?_
 have Hx:=B2 r0 hx ((hla.up le₂).up le₃)
 have Hy:=B2 r0 hy (hlb.up le₃)
 have Hz:=B2 r0 hz hlc
 induction xv using Val.casesOn with
 |str t=>
  refine Ba (HY (k:=fun a b=>.str (slice t a b)) hv) fun i j q1 q2 hq4=>?_;subst hq4
  refine Ab Hx.LY fun tk hq1 hl=>?_;subst hq1
  exact(Yo (σ:=σ₃) ⟨m,led,r0⟩ hl (Kp (n:=0) Hy (.inr q1)) (Kp Hz (.inl q2)) q1 q2).to hk (.refl _) AB hq'
 |seq tup xs=>
  induction tup using za with
  |true=>exact nz hv
  |false=>
   refine Ba (HY (k:=fun a b=>.seq false (slice xs a b)) hv) fun i j q1 q2 hq4=>?_;subst hq4
   exact(Yn (σ:=σ₃) ⟨m,led,r0⟩ Hx (Kp (n:=0) Hy (.inr q1)) (Kp Hz (.inl q2)) q1 q2).to hk (.refl _) AB hq'
 |_=>exact nz hv
theorem WN(i:AE c C d S e x):AE c C d S (.not_ e) (.UnaryOp .Not x p):=fun _ _ _ _ _ _ _ _ a h Ev _ xo hq=>
 wpAny_UnaryOp (i.go a h Ev _ xo fun _ σ₁ R₁ _ _ le sm hk r hl=>not_of (Fg (a.up le sm r) hl hk fun _ s' sm' r' hb=>hq _ σ₁ R₁ _ s' le (sm.trans sm') hb r' (.v (.bool _))))
theorem Y4(i:DM c C d S e x):DM c C d S (.not_ e) (.UnaryOp .Not x p):=fun _ _ _ _ _ _ _ _ a h Ev _ xo hq=>
 isTrue_not (i.go a h Ev _ xo fun b σ₁ R₁ s₁ le sm hk r=>hq (!b) σ₁ R₁ s₁ le sm hk r)
theorem WH(t:DM c C d S e x)(i:AE c C d S e' y)(j:AE c C d S e'' z):AE c C d S (.ite e e' e'') (.IfExp x y z p):=by
 intro f A X EP R σ s K a h Ev Q xo hq
 refine IfExp_ (t.go a h Ev _ xo fun b σ₁ R₁ s₁ le sm hk r=>?_)
 have go:Nx c f R₁ s₁ K Q:=Nx.up hq le sm
 induction b using za with
 |true=>exact i.go (a.up le sm r) hk Ev Q (xo.up le sm) go
 |false=>exact j.go (a.up le sm r) hk Ev Q (xo.up le sm) go
theorem Y2(t:DM c C d S e x)(i:DM c C d S e' y)(j:DM c C d S e'' z):DM c C d S (.ite e e' e'') (.IfExp x y z p):=by
 intro f A X EP R σ s K a h Ev Q xo hq
 refine isTrue_IfExp (t.go a h Ev _ xo fun b σ₁ R₁ s₁ le sm hk r=>?_)
 have go:=fun b σ' R' s'' le' sm''=>hq b σ' R' s'' (le.trans le') (sm.trans sm'')
 induction b using za with
 |true=>exact i.go (a.up le sm r) hk Ev Q (xo.up le sm) go
 |false=>exact j.go (a.up le sm r) hk Ev Q (xo.up le sm) go
theorem WS{k:Nat}(hl:xs.length≤Az)(hp:xs.all Ag=true)(i:Vf c C d S es xs):AE c C d S (.seq true es) (.Tuple xs k p):=fun _ _ _ _ _ _ _ _ a h Ev _ xo hq=>
 Tuple_ (i.go hp a h Ev _ xo fun _ _ _ _ _ le sm hk r hvs hlen=>(gG (a.up le sm r) hvs (by rw[hlen];exact hl)).to hk le sm hq)
theorem WJ(hl:xs.length≤Az)(hp:xs.all Ag=true)(i:Vf c C d S es xs):AE c C d S (.seq false es) (.List xs p):=fun _ _ _ _ _ _ _ _ a h Ev _ xo hq=>
 List_ (i.go hp a h Ev _ xo fun _ _ _ _ _ le sm hk r hvs hlen=>(aC (a.up le sm r) hvs (by rw[hlen];exact hl)).to hk le sm hq)
theorem Tk(hl:xs.length≤Az)(hp:xs.all Ag=true)(i:Vf c C d S es xs):AE c C d S (.nlst es) (.List xs p):=by
 intro f A X EP R σ s K a hw Ev Q xo hq
 refine List_ (i.go hp a hw Ev _ xo fun vs σ₁ R₁ rvs s₁ le sm hk r hvs hlen=>?_)
 refine Aq r fun m led r0=>?_
 refine newList_K r0.F r0.N (fun l h' F N hf=>?_) (by rw[hvs.length,hlen,←A8];exact hl)
 refine BM (r0.MH F N hf hvs (by rw[hlen];exact hl)) fun R₂ le₂ r₂ hω=>?_
 exact hq _ _ R₂ _ _ (le.trans le₂) (sm.trans AB) hk ⟨_,_,r₂⟩ (.loc hω)
end
end
end
section
set_option maxHeartbeats 4000000
section
variable {c:Cx}{C:Cfg}{S:Sx}{d:Nat}{f:Fx}{A:Around}{X:A7→St→Prop}{R R':Rec}{σ σ':St}{s s':Shared}{m:Str→Option Value}{led:List (Addr×Obj)}{EP:HN}{K:LV→St→Prop}{Ev:Value→Shared→Prop}{Q:Value→Shared→Prop}
variable {e e' e'' e3:E}{x y z w:PySem.Expr}{es:Es}{xs:List PySem.Expr}{p q q':Pos}{n:Str}
theorem eM(h:∀(X:A7→St→Prop) (K:Bool→St→Prop) (σ:St),Ec C X e K σ→False):DM c C d S e x:=fun _ _ X _ _ σ _ K _ hw=>(h X K σ hw).elim
theorem P0{o:Bool}{op:BoolOp}(i:AE c C d S e x):AE c C d S (.bl o (.cons e .nil)) (.BoolOp op [x] p):=fun _ _ _ _ _ _ _ _ a h Ev Q xo hq=>BoolOp_one (i.go a h Ev Q xo hq)
theorem Ws{e':E}{ys:List PySem.Expr}(i:AE c C d S e x)(j:AE c C d S (.bl true (.cons e' es)) (.BoolOp .And (y::ys) p)):AE c C d S (.bl true (.cons e (.cons e' es))) (.BoolOp .And (x::y::ys) p):=by
 intro f A X EP R σ s K a h Ev Q xo hq
 refine BoolOp_and (i.go a h Ev _ xo fun l σ₁ R₁ rv s₁ le sm hk r hl=>?_)
 refine Fg (a.up le sm r) hl hk fun b s' sm' r' hb=>?_
 induction b using za with
 |true=>exact j.go (a.up le (sm.trans sm') r') hb Ev Q (xo.up le (sm.trans sm')) (Nx.up hq le (sm.trans sm'))
 |false=>exact hq l σ₁ R₁ rv s' le (sm.trans sm') hb r' hl
theorem ZF{e':E}{ys:List PySem.Expr}(i:AE c C d S e x)(j:AE c C d S (.bl false (.cons e' es)) (.BoolOp .Or (y::ys) p)):AE c C d S (.bl false (.cons e (.cons e' es))) (.BoolOp .Or (x::y::ys) p):=by
 intro f A X EP R σ s K a h Ev Q xo hq
 refine BoolOp_or (i.go a h Ev _ xo fun l σ₁ R₁ rv s₁ le sm hk r hl=>?_)
 refine Fg (a.up le sm r) hl hk fun b s' sm' r' hb=>?_
 induction b using za with
 |false=>exact j.go (a.up le (sm.trans sm') r') hb Ev Q (xo.up le (sm.trans sm')) (Nx.up hq le (sm.trans sm'))
 |true=>exact hq l σ₁ R₁ rv s' le (sm.trans sm') hb r' hl
theorem U4(i:DM c C d S e x):DM c C d S (.bl true (.cons e .nil)) (.BoolOp .And [x] p):=by
 intro f A X EP R σ s K a h Ev Q xo hq
 refine isTrue_and (i.go a h Ev _ xo fun b σ₁ R₁ s₁ le sm hk r=>?_)
 induction b using za with
 |true=>exact isTrue_and_nil (hq true σ₁ R₁ s₁ le sm hk r)
 |false=>exact hq false σ₁ R₁ s₁ le sm hk r
theorem YW(i:DM c C d S e x):DM c C d S (.bl false (.cons e .nil)) (.BoolOp .Or [x] p):=by
 intro f A X EP R σ s K a h Ev Q xo hq
 refine isTrue_or (i.go a h Ev _ xo fun b σ₁ R₁ s₁ le sm hk r=>?_)
 induction b using za with
 |false=>exact isTrue_or_nil (hq false σ₁ R₁ s₁ le sm hk r)
 |true=>exact hq true σ₁ R₁ s₁ le sm hk r
theorem YV{e':E}{ys:List PySem.Expr}(i:DM c C d S e x)(j:DM c C d S (.bl true (.cons e' es)) (.BoolOp .And (y::ys) p)):DM c C d S (.bl true (.cons e (.cons e' es))) (.BoolOp .And (x::y::ys) p):=by
 intro f A X EP R σ s K a h Ev Q xo hq
 refine isTrue_and (i.go a h Ev _ xo fun b σ₁ R₁ s₁ le sm hk r=>?_)
 induction b using za with
 |true=>exact j.go (a.up le sm r) hk Ev Q (xo.up le sm) fun b σ' R' s'' le' sm''=>hq b σ' R' s'' (le.trans le') (sm.trans sm'')
 |false=>exact hq false σ₁ R₁ s₁ le sm hk r
theorem eI{e':E}{ys:List PySem.Expr}(i:DM c C d S e x)(j:DM c C d S (.bl false (.cons e' es)) (.BoolOp .Or (y::ys) p)):DM c C d S (.bl false (.cons e (.cons e' es))) (.BoolOp .Or (x::y::ys) p):=by
 intro f A X EP R σ s K a h Ev Q xo hq
 refine isTrue_or (i.go a h Ev _ xo fun b σ₁ R₁ s₁ le sm hk r=>?_)
 induction b using za with
 |false=>exact j.go (a.up le sm r) hk Ev Q (xo.up le sm) fun b σ' R' s'' le' sm''=>hq b σ' R' s'' (le.trans le') (sm.trans sm'')
 |true=>exact hq true σ₁ R₁ s₁ le sm hk r
theorem TO{l:LV}{P:Nat→Prop}(h:match l with | .loc k=>P k |_=>False):∃k,l=.loc k∧P k:=by
 induction l using LV.casesOn with
 |loc k=>exact⟨k,rfl,h⟩
 |_=>exact h.elim
theorem f7{l:LV}{P:Nat→Prop}(h:match l with | .app k=>P k |_=>False):∃k,l=.app k∧P k:=by
 induction l using LV.casesOn with
 |app k=>exact⟨k,rfl,h⟩
 |_=>exact h.elim
theorem LR.Q3{k:Nat}{rv:Value}(h:LR c R (.loc k) rv):∃a,rv=.ref a∧R.ω[k]? =some a:=by cases h with |loc h=>exact⟨_,rfl,h⟩
theorem LR.f6{k:Nat}{rv:Value}(h:LR c R (.app k) rv):∃a q,rv=.ref q∧R.ω[k]? =some a∧c.Z R q (Fh a):=by cases h with |app h z=>exact⟨_,_,rfl,h,z⟩
theorem Iv(le:R.le R'){k:Nat}{a:Addr}(h:R.ω[k]? =some a):R'.ω[k]? =some a:=by
 refine zg le.ω fun t ht=>?_
 rw[ht,zM (zu.mp h).1];exact h
theorem WC(hb:CZ x)(hn:∀{l:Addr} (r:Value),letTemporaryGo x (.ref l) r=pure ())(i:AE c C d S e x):AE c C d S (.app e) (.Attribute x "append" p):=by
 intro f A X EP R σ s K a h Ev Q xo hq
 refine Iw hb (i.go a h Ev _ xo fun l σ₁ R₁ rv s₁ le sm hk r hl=>?_) hn
 refine Ab (TO hk) fun k hq1 hk=>?_;subst hq1
 refine Ab hl.Q3 fun ad hq1 hω=>?_;subst hq1
 exact⟨_,rfl,TL c (a.up le sm r) hω Ev Q fun R' q s' le' sm' r' z=>hq (.app k) σ₁ R' (.ref q) s' (le.trans le') (sm.trans sm') hk r' (.app (Iv le' hω) z)⟩
theorem Tm{k:Nat}(hn:S.names[k]? =some n)(hp:Ag y=true)(i:AE c C d S e y):AE c C d S (.push k e) (.Call (.Name n q) [y] [] p):=by
 intro f A X EP R σ s K a h Ev Q xo hq
 refine Ab (Ae h) fun l hl h=>?_
 refine Aq a.r fun m led r=>?_
 rw[Au]
 refine zn (Ch a.G a.NM r (by rw[a.names];exact hn) hl fun rv hlr=>?_)
 refine Ab (f7 h) fun k hq1 h=>?_;subst hq1
 refine Ba hlr.f6 fun ad q hq2 hω hz=>?_;subst hq2
 refine callWith_bound (id:="list.append") (self:=.ref ad) (CB hp) (je (i.go a h Ev _ xo fun l σ₁ R₁ rv s₁ le sm hk r₁ hl₁=>jT ?_) (Aa hp))
 have a₁:=a.up le sm r₁
 refine Aq r₁ ?_;clear r₁;intro m₁ led₁ r₁
 have hz₁:=Cx.Z.mono le _ _ hz
 refine⟨r₁.get hz₁,?_⟩
 refine Ab (Am hk) fun v hv hk=>?_
 refine Ab (Ae hk) fun xs hxs hk=>?_
 exact Mp a₁ (Iv le hω) hz₁ (Bu hv hl₁) hxs hk fun s' sm' R' r' le' hk'=>hq _ _ R' _ s' (le.trans le') (sm.trans sm') hk' r' (.v .none)
theorem Th{k:Nat}(hn:S.names[k]? =some n)(hp:Ag y=true)(hl:(q.endLine==p.line)=true)(i:AE c C d S e y):AE c C d S (.apnd k e) (.Call (.Attribute (.Name n q') "append" q) [y] [] p):=by
 intro f A X EP R σ s K a h Ev Q xo hq
 refine Ab (Ae h) fun l hl' h=>?_
 refine Bq (fun _ _ _=>rfl) (CB hp) (zp rfl) hl ?_
 refine Aq a.r fun m led r=>?_
 refine Ch a.G a.NM r (by rw[a.names];exact hn) hl' fun rv hlr pl=>?_
 refine Ab (TO h) fun k hq1 h=>?_;subst hq1
 refine Ab hlr.Q3 fun ad hq1 hω=>?_;subst hq1
 refine Ub r hω ?_
 refine callWith_method1 (je (i.go a h Ev _ xo fun l σ₁ R₁ rv s₁ le sm hk r₁ hl₁=>jT ?_) (Aa hp)) (Aa hp) (by rfl)
 refine Ab (Am hk) fun v hv hk=>?_
 refine Ab (Ae hk) fun xs hxs hk=>?_
 exact OD (a.up le sm r₁) (Iv le hω) (Bu hv hl₁) hxs hk fun s' sm' R' r' le' hk'=>hq _ _ R' _ s' (le.trans le') (sm.trans sm') hk' r' (.v .none)
theorem Vg{o:Option Val}{v:Val}{R₀:Rec}{s₀:Shared}(a:At c S d f A X R σ s)(hv:o=some v)(hk:K (.v v) σ)(le:R₀.le R)(sm:Ar s₀ s)(hq:Nx c f R₀ s₀ K Q):After c S d f A X o Q R σ s:=
 ⟨v,hv,a,fun R' rv s' le' sm' r' hv'=>hq (.v v) σ R' rv s' (le.trans le') (sm.trans sm') hk r' (.v hv')⟩
theorem IU{o:P1}(hN:Bb c S n (fun |[x]=>Bw C.rx o x |_=>none))(hp:Ag x=true)(i:AE c C d S e x):AE c C d S (.p1 o e) (.Call (.Name n q) [x] [] p):=by
 intro f A X EP R σ s K a h Ev Q xo hq
 refine hN a _ _ _ _ Ev Q (CB hp) (je (one i a h xo fun ra R₁ σ₁ s₁ xv v le sm at₁ hx hv hk=>jT ?_) (Aa hp))
 exact⟨R₁,σ₁,[xv],.cons hx .nil,Vg at₁ hv hk le sm hq⟩
theorem Mt{o:P1}{g:PySem.Expr}(hN:EM c S x (.Call g xs [] p) (Bw C.rx o))(i:AE c C d S e x):AE c C d S (.p1 o e) (.Call g xs [] p):=by
 intro f A X EP R σ s K a h Ev Q xo hq
 refine hN a Ev Q (one i a h xo fun ra R₁ σ₁ s₁ xv v le sm at₁ hx hv hk=>?_)
 exact⟨R₁,σ₁,xv,hx,Vg at₁ hv hk le sm hq⟩
theorem WM{o:P2}(hN:Bb c S n (fun |[x,y]=>AG C.rx o x y |_=>none))(hp:Ag x=true)(hp':Ag y=true)(i:AE c C d S e x)(j:AE c C d S e' y):AE c C d S (.p2 o e e') (.Call (.Name n q) [x,y] [] p):=by
 intro f A X EP R σ s K a h Ev Q xo hq
 refine hN a _ _ _ _ Ev Q (Ie hp hp') (je (zZ (two i j a h xo fun ra rb R₂ σ₂ s₂ xv yv v le sm at₂ hx hy hv hk=>?_) (fun ra s₁ h₁=>je (zZ h₁ (fun rb s₂ h₂=>jT h₂) fun _ _ x=>x) (Aa hp')) fun _ _ x=>x) (Aa hp))
 exact⟨R₂,σ₂,[xv,yv],.cons hx (.cons hy .nil),Vg at₂ hv hk le sm hq⟩
theorem Mr{o:P3}(hN:Bb c S n (fun |[x,y,z]=>Dr C.rx o x y z |_=>none))(hp:Ag x=true)(hp':Ag y=true)(hp'':Ag z=true)(i:AE c C d S e x)(j:AE c C d S e' y)(k:AE c C d S e'' z):
  AE c C d S (.p3 o e e' e'') (.Call (.Name n q) [x,y,z] [] p):=by
 intro f A X EP R σ s K a h Ev Q xo hq
 refine hN a _ _ _ _ Ev Q (FT hp hp' hp'') (je (i.go a h Ev _ xo fun la σ₁ R₁ ra s₁ le sm hk r hla=>?_) (Aa hp))
 have a₁:=a.up le sm r
 refine je (j.go a₁ hk Ev _ (xo.up le sm) fun lb σ₂ R₂ rb s₂ le₂ sm₂ hk r₂ hlb=>?_) (Aa hp')
 have a₂:=a₁.up le₂ sm₂ r₂
 refine je (k.go a₂ hk Ev _ ((xo.up le sm).up le₂ sm₂) fun lc σ₃ R₃ rc s₃ le₃ sm₃ hk r₃ hlc=>jT ?_) (Aa hp'')
 have a₃:=a₂.up le₃ sm₃ r₃
 refine Ab (Ae hk) fun xv hx hk=>?_
 refine Ab (Ae hk) fun yv hy hk=>?_
 refine Ab (Ae hk) fun zv hz hk=>?_
 refine Ab (Ae hk) fun v hv hk=>?_
 refine Aq r₃ fun m led r0=>?_
 exact⟨R₃,σ₃,[xv,yv,zv],.cons (B2 r0 hx ((hla.up le₂).up le₃)) (.cons (B2 r0 hy (hlb.up le₃)) (.cons (B2 r0 hz hlc) .nil)),Vg a₃ hv hk ((le.trans le₂).trans le₃) ((sm.trans sm₂).trans sm₃) hq⟩
theorem Mq{o:P1}{dom:Val→Bool}(hda:∀x,dom x=true→isAtom x=true)(hd:∀x v,Bw C.rx o x=some v→dom x=true)(hM:Bc c S n dom (fun |x,[]=>Bw C.rx o x |_,_=>none))(hb:CZ x)(hl:(q.endLine==p.line)=true)(i:AE c C d S e x):
  AE c C d S (.p1 o e) (.Call (.Attribute x n q) [] [] p):=by
 intro f A X EP R σ s K a h Ev Q xo hq
 refine hM a _ _ _ _ Ev Q hb rfl (zp rfl) hl (one i a h xo fun ra R₁ σ₁ s₁ xv v le sm at₁ hx hv hk=>?_)
 have hat:=hd xv v hv
 exact⟨R₁,σ₁,xv,at₁,hx.atom (hda _ hat),hat,jT ⟨R₁,σ₁,[],.refl _,.nil,Vg at₁ hv hk le sm hq⟩⟩
theorem WK{o:P2}(hM:Bc c S n BC (fun |x,[y]=>AG C.rx o x y |_,_=>none))(hb:CZ x)(hl:(q.endLine==p.line)=true)(hp:Ag y=true)(i:AE c C d S e x)(j:AE c C d S e' y):AE c C d S (.m2 o e e') (.Call (.Attribute x n q) [y] [] p):=by
 intro f A X EP R σ s K a h Ev Q xo hq
 refine hM a _ _ _ _ Ev Q hb (CB hp) (zp rfl) hl (i.go a h Ev _ xo fun l σ₁ R₁ rv s₁ le sm hk r hlr=>?_)
 refine Ab (Am hk) fun xv hx hk=>?_
 refine Ao (BQ hk) fun hat hk=>?_
 have a₁:=a.up le sm r
 refine⟨R₁,σ₁,xv,a₁,Bu hx hlr,hat,je (j.go a₁ hk Ev _ (xo.up le sm) fun lb σ₂ R₂ rb s₂ le₂ sm₂ hk r₂ hlb=>jT ?_) (Aa hp)⟩
 refine Ab (Am hk) fun yv hy hk=>?_
 refine Ab (Ae hk) fun v hv hk=>?_
 exact⟨R₂,σ₂,[yv],le₂,.cons (Bu hy hlb) .nil,Vg (a₁.up le₂ sm₂ r₂) hv hk (le.trans le₂) (sm.trans sm₂) hq⟩
theorem WL{o:P3}(hM:Bc c S n BC (fun |x,[y,z]=>Dr C.rx o x y z |_,_=>none))(hb:CZ x)(hl:(q.endLine==p.line)=true)(hp:Ag y=true)(hp':Ag z=true)(i:AE c C d S e x)(j:AE c C d S e' y)(k:AE c C d S e'' z):
  AE c C d S (.m3 o e e' e'') (.Call (.Attribute x n q) [y,z] [] p):=by
 intro f A X EP R σ s K a h Ev Q xo hq
 refine hM a _ _ _ _ Ev Q hb (Ie hp hp') (zp rfl) hl (i.go a h Ev _ xo fun l σ₁ R₁ rv s₁ le sm hk r hlr=>?_)
 refine Ab (Am hk) fun xv hx hk=>?_
 refine Ao (BQ hk) fun hat hk=>?_
 have a₁:=a.up le sm r
 refine⟨R₁,σ₁,xv,a₁,Bu hx hlr,hat,je (j.go a₁ hk Ev _ (xo.up le sm) fun lb σ₂ R₂ rb s₂ le₂ sm₂ hk r₂ hlb=>?_) (Aa hp)⟩
 refine Ab (Am hk) fun yv hy hk=>?_
 have a₂:=a₁.up le₂ sm₂ r₂
 refine je (k.go a₂ hk Ev _ ((xo.up le sm).up le₂ sm₂) fun lc σ₃ R₃ rc s₃ le₃ sm₃ hk r₃ hlc=>jT ?_) (Aa hp')
 refine Ab (Am hk) fun zv hz hk=>?_
 refine Ab (Ae hk) fun v hv hk=>?_
 exact⟨R₃,σ₃,[yv,zv],le₂.trans le₃,.cons (V.up le₃ (Bu hy hlb)) (.cons (Bu hz hlc) .nil),Vg (a₂.up le₃ sm₃ r₃) hv hk ((le.trans le₂).trans le₃) ((sm.trans sm₂).trans sm₃) hq⟩
theorem Qm{o:P4}(hM:Bc c S n BC (fun |x,[y,z,w]=>HK o x y z w |_,_=>none))(hb:CZ x)(hl:(q.endLine==p.line)=true)(hp:Ag y=true)(hp':Ag z=true)(hp'':Ag w=true)
  (i:AE c C d S e x) (j:AE c C d S e' y) (k:AE c C d S e'' z) (g:AE c C d S e3 w):AE c C d S (.p4 o e e' e'' e3) (.Call (.Attribute x n q) [y,z,w] [] p):=by
 intro f A X EP R σ s K a h Ev Q xo hq
 refine hM a _ _ _ _ Ev Q hb (FT hp hp' hp'') (zp rfl) hl (i.go a h Ev _ xo fun l σ₁ R₁ rv s₁ le sm hk r hlr=>?_)
 refine Ab (Am hk) fun xv hx hk=>?_
 refine Ao (BQ hk) fun hat hk=>?_
 have a₁:=a.up le sm r
 refine⟨R₁,σ₁,xv,a₁,Bu hx hlr,hat,je (j.go a₁ hk Ev _ (xo.up le sm) fun lb σ₂ R₂ rb s₂ le₂ sm₂ hk r₂ hlb=>?_) (Aa hp)⟩
 refine Ab (Am hk) fun yv hy hk=>?_
 have a₂:=a₁.up le₂ sm₂ r₂
 refine je (k.go a₂ hk Ev _ ((xo.up le sm).up le₂ sm₂) fun lc σ₃ R₃ rc s₃ le₃ sm₃ hk r₃ hlc=>?_) (Aa hp')
 refine Ab (Am hk) fun zv hz hk=>?_
 have a₃:=a₂.up le₃ sm₃ r₃
 refine je (g.go a₃ hk Ev _ (((xo.up le sm).up le₂ sm₂).up le₃ sm₃) fun ld σ₄ R₄ rd s₄ le₄ sm₄ hk r₄ hld=>jT ?_) (Aa hp'')
 refine Ab (Am hk) fun wv hw hk=>?_
 refine Ab (Ae hk) fun v hv hk=>?_
 exact⟨R₄,σ₄,[yv,zv,wv],(le₂.trans le₃).trans le₄,.cons (V.up (le₃.trans le₄) (Bu hy hlb)) (.cons (V.up le₄ (Bu hz hlc)) (.cons (Bu hw hld) .nil)),Vg (a₃.up le₄ sm₄ r₄) hv hk (((le.trans le₂).trans le₃).trans le₄) (((sm.trans sm₂).trans sm₃).trans sm₄) hq⟩
theorem Uu{rx:Rx}{x v:Val}{u t:Txt}(h:Dr rx .replace x (.str u) (.str t)=some v):∃tx o u',x=.str tx∧u=o::u'∧t.length≤u'.length+1∧tx.length≤1000000∧v=.str (AA (o::u') t 0 tx):=by
 induction x using Val.casesOn with
 |str tx=>induction u using zi with
  |nil=>exact nz h
  |cons o u'=>
   have h:cond (Nat.ble t.length (u'.length+1) && Nat.ble tx.length 1000000) (some (Val.str (AA (o::u') t 0 tx))) none=some v:=h
   induction q:Nat.ble t.length (u'.length+1) && Nat.ble tx.length 1000000 using za with
   |false=>rw[q]at h;exact nz h
   |true=>
    rw[q]at h
    exact⟨tx,o,u',rfl,rfl,Df (Ad q).1,Df (Ad q).2,(ze h).symm⟩
 |_=>exact nz h
theorem WO{u v:Txt}{k k':Nat}{r r':Pos}(hm:S.Ah=true)(hb:CZ x)(hl:(q.endLine==p.line)=true)(hne:Bt u v=false)(hy:v.length≤1)(i:AE c C d S e x):
  AE c C d S (.m3 .replace e (.lit (.str u)) (.lit (.str v))) (.Call (.Attribute x "replace" q) [.Constant (.str ⟨u.toArray⟩) k r,.Constant (.str ⟨v.toArray⟩) k' r'] [] p):=by
 intro f A X EP R σ s K a h Ev Q xo hq
 refine Bq hb rfl (zp rfl) hl (i.go a h Ev _ xo fun l σ₁ R₁ rv s₁ le sm hk r hlr pl=>?_)
 refine Ab (Am hk) fun xv hxv hk=>?_
 refine Ao (BQ hk) fun _ hk=>?_
 refine Ab (Ae hk) fun w hv hk=>?_
 refine eU (Uu hv) fun tx o u' hq3 hq4 q1 q2 hq7=>?_;subst hq3;subst hq4;subst hq7
 have hV:VH c R₁ s₁.heap (.str tx) rv:=.of (Bu hxv hlr)
 refine Ab hV.LY fun tk hq1 hlen=>?_;subst hq1
 have hpos:=(a.up le sm r).pos hm
 have hsz:tx.length+(tx.length+1)*v.length≤Az:=by
  have h1:(tx.length+1)*v.length≤(tx.length+1)*1:=Nat.mul_le_mul_left _ hy
  have:=BO
  lia
 refine RY (RU ?_)
 have smt:Ar s₁ {s₁ with heap:=s₁.heap,toks:=s₁.toks+1+1}:=An (zl (zV _) (zV _))
 exact(O5 (s:={s₁ with heap:=s₁.heap,toks:=s₁.toks+1+1}) (σ:=σ₁) r hlen q1 hne (Nat.ne_of_gt hpos) (jO _) (Ja (zQ _)) hsz).to hk le (sm.trans smt) hq
end
end
section
set_option maxHeartbeats 4000000
section
variable {c:Cx}{C:Cfg}{S:Sx}{d:Nat}{f:Fx}{A:Around}{X:A7→St→Prop}{R R':Rec}{σ σ':St}{s s':Shared}{m:Str→Option Value}{led:List (Addr×Obj)}{EP:HN}{K:LV→St→Prop}{Ev:Value→Shared→Prop}{Q:Value→Shared→Prop}
variable {e e' e'' e3:E}{x y z w:PySem.Expr}{es:Es}{xs:List PySem.Expr}{p q q':Pos}{n:Str}
theorem Dy{h₀:Heap}{g:Value}{first:List Value}{pos:Pos}(X₀:c.K.In h₀)(hk:keepIn c.K g=true)(hp:xs.all Ag=true)
  (h:wpAny (model c.prog c.w) A (spliced (backTo pos (starEach xs f.env))) (fun vs s₁=>c.K.In s₁.heap∧wpAny (model c.prog c.w) A (call g (first++vs)) Q Ev s₁) Ev s):wpAny (model c.prog c.w) A (callWith pos g first (backTo pos (starEach xs f.env)) []) Q Ev s:=by
 induction xs using zi with
 |nil=>exact fun Γ p hΓ=>callWith_K0 (h Γ p hΓ).1 hk (h Γ p hΓ).2 Γ p hΓ
 |cons x xs=>exact callWith_K X₀ hk h (Aa (Ad hp).1) (Aw (Ad hp).2)
theorem At.In(a:At c S d f A X R σ s):c.K.In s.heap:=by
 refine Aq a.r fun m led r0=>?_
 exact a.G.X.keeps r0.F.keep
theorem ZQ(hm:S.Ah=false)(HC:A4 c C d c.mth){k:Nat}(hf:i4 c S n k)(hp:xs.all Ag=true)(i:Vf c C d S es xs):AE c C d S (.fcall k es) (.Call (.Name n q) xs [] p):=by
 intro f A X EP R σ s K a h Ev Q xo hq
 refine BM hf.at_ fun ad h1 h2 h3=>?_
 rw[Au]
 refine zn (Er a h2 (Dy a.G.X h3 hp (i.go hp a h Ev _ xo fun vs σ₁ R₁ rvs s₁ le sm hk r hvs _=>?_)))
 have a₁:=a.up le sm r
 exact⟨a₁.In,Qj hm hf.mth HC a₁ hvs hk h1 (Nx.up hq le sm)⟩
theorem ZS(hm:S.Ah=true)(hk:S.cs.names.lookup c.self=some .local)(hd:(c.self==("__debug__":Str))=false)(HC:A4 c C d c.mth){k:Nat}(hf:SX c n k)(hl:(q.endLine==p.line)=true):AE c C d S (.scall k .nil) (.Call (.Attribute (.Name c.self q') n q) [] [] p):=by
 intro f A X EP R σ s K a h Ev Q xo hq
 refine L8 hf.at_ fun ad h1 h2 h3 h4=>?_
 refine Aq (NC a hm) fun x dx hsd=>?_
 refine Bq (fun _ _ _=>rfl) rfl (zp rfl) hl (Fe a hsd hk hd fun pl=>?_)
 refine Aq a.r fun m led r0=>?_
 refine Ba (My r0 hsd) fun es n y1 y2 I=>?_
 exact method_inst r0.F a.G.X I hf.get h2 h3 (y2.2.1 _ hf.no) (callWith_K0 (a.G.X.keeps r0.F.keep) h4 (Qo hf.mth HC a hsd .nil h h1 hq))
theorem dE{ov:Val}{P:Nat→Prop}(h:match ov with | .obj d=>P d |_=>False):∃j,ov=.obj j∧P j:=by
 induction ov using Val.casesOn with
 |obj j=>exact⟨j,rfl,h⟩
 |_=>exact h.elim
theorem W3{o:Option Cell}{P:List (Option Val)→Prop}(h:match o with |some (.flds fs)=>P fs |_=>False):∃fs,o=some (.flds fs)∧P fs:=by
 induction o using zh with
 |none=>exact h.elim
 |some cell=>induction cell using Cell.casesOn with
  |taken=>exact h.elim
  |flds fs=>exact⟨fs,rfl,h⟩
theorem OO{h:List Cell}{j:Nat}(e:TB h j=true):∃fs,h[j]? =some (.flds fs):=by
 obtain⟨fs,h,_⟩:=W3 (o:=h[j]?) (P:=fun _=>True) (by
  unfold TB at e
  induction q:h[j]? using zh with
  |none=>rw[q]at e;exact ft e
  |some cell=>induction cell using Cell.casesOn with
   |taken=>rw[q]at e;exact ft e
   |flds fs=>trivial)
 exact⟨fs,h⟩
theorem VR.XE{j:Nat}{v:Value}(h:c.V R (.obj j) v):∃x dx,v=.ref x∧c.Z R x (instObj c.PC dx)∧R.ρ[j]? =some dx:=by cases h with |obj z hd=>exact⟨_,_,rfl,z,hd⟩
theorem lI{P:Nat→Prop}{j:Nat}(h:B9 (Ax σ.loc j) (fun l=>B8 (fun ov σ=>match ov with | .obj d=>P d |_=>False) l σ)):∃l d,Ax σ.loc j=some l∧val? l=some (.obj d)∧P d:=by
 refine Ab (Ae h) fun l hl h=>?_
 refine Ab (Am h) fun ov hov h=>?_
 refine Ab (dE h) fun d hq1 h=>?_;subst hq1
 exact⟨l,d,hl,hov,h⟩
theorem ZR(hm:S.Ah=false)(HC:A4 c C d c.mth){k j:Nat}{nj:Str}(hj:S.names[j]? =some nj)(hf:SX c n k)(hl:(q.endLine==p.line)=true)(hn:xs.length < 25)(hp:xs.all Ag=true)(i:Vf c C d S es xs):
  AE c C d S (.mcall k j es) (.Call (.Attribute (.Name nj q') n q) xs [] p):=by
 intro f A X EP R σ s K a h Ev Q xo hq
 refine Ba (lI h) fun l t hl' hov h=>?_
 refine L8 hf.at_ fun ad h1 h2 h3 h4=>?_
 refine Ao (BQ h) fun hfl h=>?_
 refine Aq a.r fun m led r0=>?_
 refine Bq (fun _ _ _=>rfl) hp hn hl (Ch a.G a.NM r0 (by rw[a.names];exact hj) hl' fun rv hlr pl=>?_)
 have hV:=Bu hov hlr
 refine zg (OO hfl) fun fs ND=>?_
 refine Ba (VR.XE hV) fun x dx hq2 z hd=>?_;subst hq2
 refine CS (r0.cells t fs ND) fun dx' es' n' z0 z1 z2=>?_
 rw[hd]at z0;cases z0
 have I:InstAt s.heap x (instObj c.PC dx) c.PC (some (dictOf es' n')):=⟨r0.get z,rfl,rfl,r0.BN z1⟩
 refine method_inst r0.F a.G.X I hf.get h2 h3 (z2.2.1 _ hf.no) (Dy a.G.X h4 hp (i.go hp a h Ev _ xo fun vs σ₁ R₁ rvs s₁ le sm hk r hvs _=>?_))
 have a₁:=a.up le sm r
 refine Ab (W3 hk) fun fs₁ q hk=>?_
 exact⟨a₁.In,Ql hm hf.mth HC a₁ q (V.up le hV) hvs hk h1 (Nx.up hq le sm)⟩
end
noncomputable def LD(n m:Str):Bool:=Bt n.cps.toList m.cps.toList
theorem KI{a b:Txt}(h:Bt a b=true):a=b:=z7 ((KH a b).symm.trans h)
theorem T1{n m:Str}(h:LD n m=true):n=m:=by
 obtain⟨a⟩:=n;obtain⟨b⟩:=m
 exact zB Str.mk (Array.toList_inj.mp (KI h))
noncomputable def BF:List Str→Str→Bool
 |[],_=>false
 |x::r,n=>LD x n || BF r n
theorem AN:∀{l:List Str} {n:Str},BF l n=true→n∈l
 |[],_,h=>ft h
 |x::r,n,h=>by
  rcases Bool.or_eq_true_iff.mp h with h |h
  ·rw[T1 h];exact .head _
  ·exact .tail _ (AN h)
mutual
noncomputable def vEq:Val→Val→Bool
 | .bool a,y=>(match y with | .bool b=>cond a b (!b) |_=>false)
 | .int a,y=>(match y with | .int b=>IT a b |_=>false)
 | .str a,y=>(match y with | .str b=>Bt a b |_=>false)
 | .seq t a,y=>(match y with | .seq u b=>cond t u (!u) && Zb a b |_=>false)
 |_,_=>false
noncomputable def Zb:List Val→List Val→Bool
 |[],y=>(match y with |[]=>true |_=>false)
 |x::a,y=>(match y with |z::b=>vEq x z && Zb a b |_=>false)
end
theorem Qf{a b:Int}(h:IT a b=true):a=b:=z7 ((GN a b).symm.trans h)
theorem IP{t u:Bool}(h:cond t u (!u)=true):t=u:=by induction t using za <;>induction u using za <;>first |rfl |exact ft h
theorem Za:∀a b:Val,vEq a b=true→a=b:=by
 refine@Val.rec (fun a=>∀b,vEq a b=true→a=b) (fun a=>∀b,Zb a b=true→a=b) ?_ ?_ ?_ ?_ ?_ ?_ ?_ ?_ ?_
 ·exact fun _ h=>ft h
 ·intro t b h
  induction b using Val.casesOn with
  |bool u=>rw[IP h]
  |_=>exact ft h
 ·intro i b h
  induction b using Val.casesOn with
  |int j=>rw[Qf h]
  |_=>exact ft h
 ·intro i b h
  induction b using Val.casesOn with
  |str j=>rw[KI h]
  |_=>exact ft h
 ·intro t xs ih b h
  induction b using Val.casesOn with
  |seq u ys=>
   have h:=Ad h
   rw[IP h.1,ih _ h.2]
  |_=>exact ft h
 ·exact fun _ _ h=>ft h
 ·exact fun _ _ _ h=>ft h
 ·intro b h
  induction b using zi with
  |nil=>rfl
  |cons _ _=>exact ft h
 ·intro x xs i1 i2 b h
  induction b using zi with
  |nil=>exact ft h
  |cons z b=>
   have h:=Ad h
   rw[i1 _ h.1,i2 _ h.2]
noncomputable def Wz:Val→Bool
 | .none=>true
 | .bool _=>true
 | .int _=>true
 | .str x=>Nat.ble x.length Az
 |_=>false
noncomputable def lR(T:Tb)(o:P1)(a:E):Bool:=match o with
 | .neg=>true
 | .isnone=>true
 | .notnone=>true
 | .mend=>Dz a
 | .mstart=>Dz a
 | .mspan=>Dz a
 | .squeeze=>BF T.gls (g1 .squeeze) && Dz a
 | .bs=>BF T.gls (g1 .bs)
 | .isint=>BF T.gls (g1 .isint)
 |o=>BF T.gls (g1 o)
noncomputable def ip(T:Tb)(o:P2):Bool:=match GJ o,HV o with
 |some _,_=>true
 |none,some _=>true
 |none,none=>match o with
  | .idx=>true
  | .expand=>false
  |o=>BF T.gls (g2 o)
noncomputable def lS(T:Tb)(o:P3)(a:E):Bool:=match o with
 | .slc=>true
 | .find=>false
 | .replace=>false
 |o=>BF T.gls (g3 o)
noncomputable def Lz :E→Option Txt
 | .lit (.str x)=>some x
 |_=>none
noncomputable def ir(T:Tb)(a b e:E):Bool:=match Lz b,Lz e with
 |some u,some v=>T.Ah && (Dz a && (!(Bt u v) && Nat.ble v.length 1))
 |_,_=>false
noncomputable def aa:P2→Bool
 | .expand=>true
 |_=>false
noncomputable def ab:P3→Bool
 | .find=>true
 |_=>false
noncomputable def af:P3→Bool
 | .replace=>true
 |_=>false
noncomputable def I4:Val→Bool
 | .mt _ _=>true
 |_=>false
section
variable (T:Tb)
mutual
noncomputable def CV:E→Bool
 | .lit v=>Wz v
 | .glob i v=>(match T.gl[i]? with |some g=>vEq g.2 v && BF T.gls (AH (T.gl.map (·.1)) i) |none=>false)
 | .loc i=>Nat.blt i T.names.length
 | .sat i=>T.Ah && Nat.blt i T.attrs.length
 | .p1 o a=>lR T o a && CV a
 | .p2 o a b=>ip T o && (CV a && CV b)
 | .p3 o a b e=>lS T o a && (CV a && (CV b && CV e))
 | .p4 _ a b e g=>Dz a && (CV a && (CV b && (CV e && CV g)))
 | .m2 o a b=>(aa o && Dz a) && (CV a && CV b)
 | .m3 o a b e=>cond (ab o) (Dz a && (CV a && (CV b && CV e))) (af o && (ir T a b e && CV a))
 | .bl _ es=>Nat.blt 0 (Ly es) && LG es
 | .not_ a=>CV a
 | .ite t a b=>CV t && (CV a && CV b)
 | .seq _ es=>Nat.ble (Ly es) Az && LG es
 | .nlst es=>Nat.ble (Ly es) Az && LG es
 | .app a=>Vt a && CV a
 | .push f x=>Nat.blt f T.names.length && CV x
 | .apnd f x=>Nat.blt f T.names.length && CV x
 | .fcall f es=>(!T.Ah && ((Nat.ble T.mtn f && Nat.blt f T.Dj.length) && BF T.gls (AH T.Dj f))) && LG es
 | .scall f es=>(T.Ah && Nat.blt f T.mtn) && isNil es
 | .mcall f j es=>(!T.Ah && (Nat.blt f T.mtn && (Nat.blt j T.names.length && Nat.blt (Ly es) 25))) && LG es
 | .new es=>(!T.Ah && BF T.gls T.cls) && (Nat.blt 0 (Ly es) && LG es)
 | .icall f x=>Nat.blt f T.names.length && CV x
 | .wal i x=>Nat.blt i T.names.length && CV x
noncomputable def LG:Es→Bool
 | .nil=>true
 | .cons e es=>CV e && LG es
end
end
end
section
set_option maxHeartbeats 4000000
noncomputable def gw:P1→Bool
 | .len=>true
 | .sum=>true
 | .tuple=>true
 | .syn1=>true
 |_=>false
noncomputable def ae(o:P2):Bool:=match GJ o,HV o with
 |none,none=>(match o with
  | .idx=>false
  | .expand=>false
  |_=>true)
 |_,_=>false
noncomputable def gx:P3→Bool
 | .chew=>true
 | .strre=>true
 | .syn3=>true
 |_=>false
structure eZ(c:Cx)(C:Cfg)(d:Nat)(S:Sx)(T:Tb):Prop where
 names:S.names=T.names
 attrs:c.attrs=T.attrs
 self:c.self=T.self
 Ah:S.Ah=T.Ah
 gl:c.gl=T.gl
 kfun:S.cs.kind=.function
 loc:∀n∈T.names,S.cs.names.lookup n≠some .free
 sk:T.Ah=true→S.cs.names.lookup c.self=some .local∧(c.self==("__debug__":Str))=false
 gsc:∀n∈T.gls,S.cs.names.lookup n=some .globalImplicit∧(n==("__debug__":Str))=false
 n1:∀o,gw o=true→g1 o∈T.gls→Bb c S (g1 o) (fun |[x]=>Bw C.rx o x |_=>none)
 n2:∀o,ae o=true→g2 o∈T.gls→Bb c S (g2 o) (fun |[x,y]=>AG C.rx o x y |_=>none)
 n3:∀o,gx o=true→g3 o∈T.gls→Bb c S (g3 o) (fun |[x,y,z]=>Dr C.rx o x y z |_=>none)
 sq:g1 .squeeze∈T.gls→∀(x:PySem.Expr) (p q q':Pos),CZ x→(q.endLine==p.line)=true→EM c S x (.Call (.Attribute x "translate" q) [.Name (g1 .squeeze) q'] [] p) (Bw C.rx .squeeze)
 bs:g1 .bs∈T.gls→∀(x:PySem.Expr) (p q q':Pos),Ag x=true→(q.endLine==p.line)=true→EM c S x (.Call (.Attribute (.Name (g1 .bs) q') "match" q) [x] [] p) (Bw C.rx .bs)
 me:Bc c S "end" I4 (fun |x,[]=>Bw C.rx .mend x |_,_=>none)
 ms:Bc c S "start" I4 (fun |x,[]=>Bw C.rx .mstart x |_,_=>none)
 mp:Bc c S "span" I4 (fun |x,[]=>Bw C.rx .mspan x |_,_=>none)
 mx:Bc c S "expandtabs" BC (fun |x,[y]=>AG C.rx .expand x y |_,_=>none)
 mf:Bc c S "find" BC (fun |x,[y,z]=>Dr C.rx .find x y z |_,_=>none)
 m4:Bc c S "find" BC (fun |x,[y,z,w]=>HK .find x y z w |_,_=>none)
 mr:Bc c S "rfind" BC (fun |x,[y,z,w]=>HK .rfind x y z w |_,_=>none)
 fn:∀k,T.mtn≤k→k < T.Dj.length→AH T.Dj k∈T.gls→T.Ah=false→i4 c S (AH T.Dj k) k
 mt:∀k,k < T.mtn→SX c (AH T.Dj k) k
 new:T.Ah=false→T.cls∈T.gls→PI c C d S T.cls
 ic:∀(k:Nat) (q p:Pos) (n:Str) {x:PySem.Expr} {e:E},S.names[k]? =some n→Ag x=true→AE c C d S e x→AE c C d S (.icall k e) (.Call (.Name n q) [x] [] p)
 ii:g1 .isint∈T.gls→∀(x:PySem.Expr) (p q q':Pos),Ag x=true→EM c S x (.Call (.Name (g1 .isint) q) [x,.Name "int" q'] [] p) (Bw C.rx .isint)
theorem Dn:∀{l:List Str} {k:Nat},k < l.length→l[k]? =some (AH l k)
 |[],_,h=>absurd h (jt _)
 |_::_,0,_=>rfl
 |_::r,k+1,h=>by rw[List.getElem?_cons_succ];exact Dn (jB h)
section
variable {c:Cx}{C:Cfg}{S:Sx}{d:Nat}{T:Tb}{e a b g e':E}{es:Es}
theorem B1(T:Tb)(i k:Nat):((T.q i k).endLine==(T.p k).line)=true:=jF _
noncomputable def PE(c:Cx)(C:Cfg)(d:Nat)(S:Sx)(T:Tb)(e:E):Prop:=∀k,CV T e=true→AE c C d S e (Ca T e k)∧DM c C d S e (Ca T e k)
noncomputable def SR(c:Cx)(C:Cfg)(d:Nat)(S:Sx)(T:Tb)(es:Es):Prop:=∀k,LG T es=true→Vf c C d S es (Ed T es k)∧
 (0 < Ly es→∀o p,AE c C d S (.bl o es) (.BoolOp (cond o .And .Or) (Ed T es k) p)∧DM c C d S (.bl o es) (.BoolOp (cond o .And .Or) (Ed T es k) p))
theorem Gq{e:E}{x:PySem.Expr}(i:AE c C d S e x)(h:∀(X:A7→St→Prop) (K:Bool→St→Prop) (σ:St),Ec C X e K σ→False):AE c C d S e x∧DM c C d S e x:=⟨i,eM h⟩
theorem CE{e:E}{x:PySem.Expr}(i:AE c C d S e x)(hi:∀env whole,isTrue x env whole=(do let v ←whole;standAt x.pos;holding [v] (truthy v)))(he:∀{X:A7→St→Prop} {σ:St} {K:Bool→St→Prop},Ec C X e K σ→Ce C X e (Gv K) σ):AE c C d S e x∧DM c C d S e x:=
 ⟨i,L3 hi he i⟩
variable (O:eZ c C d S T)(ok:EJ c)(HC:A4 c C d c.mth)
include O in
theorem Ct{k:Nat}(h:Nat.blt k T.names.length=true):S.names[k]? =some (AH T.names k):=by rw[O.names];exact Dn (DG h)
theorem XS(v:Val):PE c C d S T (.lit v):=by
 intro k h
 refine Gq ?_ fun _ _ _ h=>h
 induction v using Val.casesOn with
 |none=>exact Tl
 |bool b=>exact Ti
 |int i=>exact WG
 |str x=>exact WR (Df h)
 |_=>exact ft h
include O ok in
theorem Uf(i:Nat)(v:Val):PE c C d S T (.glob i v):=by
 intro k h
 refine Gq ?_ fun _ _ _ h=>h
 have h:(match T.gl[i]? with |some g=>vEq g.2 v && BF T.gls (AH (T.gl.map (·.1)) i) |none=>false)=true:=h
 induction q:T.gl[i]? using zh with
 |none=>rw[q]at h;exact ft h
 |some g=>
  rw[q]at h
  have h:=Ad h
  have e:AH (T.gl.map (·.1)) i=g.1:=by
   have h1:=Dn (l:=T.gl.map (·.1)) (k:=i) (by rw[z3];exact(zu.mp q).1)
   rw[Je,q]at h1
   exact(ze h1).symm
  have h2:=O.gsc _ (AN h.2)
  rw[←Za _ _ h.1]
  show AE c C d S _ (.Name (AH (T.gl.map (·.1)) i) _)
  rw[e]at h2 ⊢
  exact Tj ok (by rw[O.gl];exact jh q) h2.1 h2.2
include O in
theorem XT(i:Nat):PE c C d S T (.loc i):=fun _ h=>CE (WI (Ct O h)) (fun _ _=>rfl) fun h=>h
include O ok in
theorem XW(i:Nat):PE c C d S T (.sat i):=by
 intro k h
 have h:=Ad h
 refine Ao (O.sk h.1) fun s1 s2=>?_
 refine CE ?_ (fun _ _=>rfl) fun h=>h
 show AE c C d S _ (.Attribute (.Name T.self _) _ _)
 rw[←O.self]
 exact WP ok (O.Ah.trans h.1) s1 s2 (by rw[O.attrs];exact Dn (DG h.2))
theorem Kf:∀x,I4 x=true→isAtom x=true:=fun x h=>by induction x using Val.casesOn <;>first |rfl |exact ft h
include O in
theorem dI(o:P1)(a:E)(i:PE c C d S T a):PE c C d S T (.p1 o a):=by
 intro k h
 have h:=Ad h
 have i1:=(i (k+3) h.2).1
 have hp:=Ai T a (k+3)
 induction o using P1.casesOn with
 |neg=>exact⟨Qn i1,Y3 i1⟩
 |isnone=>exact⟨OE i1,Ph i1⟩
 |notnone=>exact⟨Ms i1,M3 i1⟩
 |len=>exact CE (IU (O.n1 .len rfl (AN h.1)) hp i1) (fun _ _=>rfl) fun h=>h
 |sum=>exact CE (IU (O.n1 .sum rfl (AN h.1)) hp i1) (fun _ _=>rfl) fun h=>h
 |tuple=>exact CE (IU (O.n1 .tuple rfl (AN h.1)) hp i1) (fun _ _=>rfl) fun h=>h
 |mend=>exact CE (Mq Kf (fun x v h=>by induction x using Val.casesOn <;>first |rfl |exact nz h) O.me (Cn T _ h.1) (B1 ..) i1) (fun _ _=>rfl) fun h=>h
 |mstart=>exact CE (Mq Kf (fun x v h=>by induction x using Val.casesOn <;>first |rfl |exact nz h) O.ms (Cn T _ h.1) (B1 ..) i1) (fun _ _=>rfl) fun h=>h
 |mspan=>exact CE (Mq Kf (fun x v h=>by induction x using Val.casesOn <;>first |rfl |exact nz h) O.mp (Cn T _ h.1) (B1 ..) i1) (fun _ _=>rfl) fun h=>h
 |syn1=>exact CE (IU (O.n1 .syn1 rfl (AN h.1)) hp i1) (fun _ _=>rfl) fun h=>h
 |squeeze=>exact CE (Mt (O.sq (AN (Ad h.1).1) _ _ _ _ (Cn T _ (Ad h.1).2) (B1 ..)) i1) (fun _ _=>rfl) fun h=>h
 |isint=>exact CE (Mt (O.ii (AN h.1) _ _ _ _ hp) i1) (fun _ _=>rfl) fun h=>h
 |bs=>exact CE (Mt (O.bs (AN h.1) _ _ _ _ hp (B1 ..)) i1) (fun _ _=>rfl) fun h=>h
include O in
theorem dJ(o:P2)(a b:E)(i:PE c C d S T a)(j:PE c C d S T b):PE c C d S T (.p2 o a b):=by
 intro k h
 have h:=Ad h
 have h2:=Ad h.2
 have i1:=(i (k+2) h2.1).1
 have j1:=(j (k+2+sz a) h2.2).1
 show AE c C d S _ (f2 T o _ _ _)∧DM c C d S _ (f2 T o _ _ _)
 have h1:ip T o=true:=h.1
 unfold ip at h1
 unfold f2
 induction q:GJ o using zh with
 |some op=>exact⟨WE q (Kz ..) i1 j1,Y1 q (Kz ..) i1 j1⟩
 |none=>
  rw[q]at h1
  induction q':HV o using zh with
  |some op=>exact CE (WD q' i1 j1) (fun _ _=>rfl) fun h=>h
  |none=>
   rw[q']at h1
   induction o using P2.casesOn with
   |idx=>exact CE (WF i1 j1) (fun _ _=>rfl) fun h=>h
   |expand=>exact ft h1
   |_=>exact CE (WM (O.n2 _ (by unfold ae;rw[q,q']) (AN h1)) (Ai ..) (Ai ..) i1 j1) (fun _ _=>rfl) fun h=>h
theorem Q4{k:Nat}(h:Vt a=true):CZ (Ca T a k)∧∀{l:Addr} (r:Value),letTemporaryGo (Ca T a k) (.ref l) r=pure ():=by
 induction a using E.casesOn with
 |loc i=>exact⟨fun _ _ _=>rfl,fun _=>rfl⟩
 |_=>exact ft h
include O in
theorem dK(o:P3)(a b e:E)(i:PE c C d S T a)(j:PE c C d S T b)(g:PE c C d S T e):PE c C d S T (.p3 o a b e):=by
 intro k h
 have h:=Ad h
 have h2:=Ad h.2
 have h3:=Ad h2.2
 have i1:=(i (k+2) h2.1).1
 have j1:=(j (k+2+sz a) h3.1).1
 have g1:=(g (k+2+sz a+sz b) h3.2).1
 induction o using P3.casesOn with
 |slc=>exact CE (WQ i1 (VV rfl j1) (VV rfl g1)) (fun _ _=>rfl) fun h=>h
 |chew=>exact CE (Mr (O.n3 .chew rfl (AN h.1)) (Ai ..) (Ai ..) (Ai ..) i1 j1 g1) (fun _ _=>rfl) fun h=>h
 |strre=>exact CE (Mr (O.n3 .strre rfl (AN h.1)) (Ai ..) (Ai ..) (Ai ..) i1 j1 g1) (fun _ _=>rfl) fun h=>h
 |syn3=>exact CE (Mr (O.n3 .syn3 rfl (AN h.1)) (Ai ..) (Ai ..) (Ai ..) i1 j1 g1) (fun _ _=>rfl) fun h=>h
 |find=>exact ft h.1
 |replace=>exact ft h.1
include O in
theorem dM(o:P4)(a b e g:E)(i:PE c C d S T a)(j:PE c C d S T b)(l:PE c C d S T e)(r:PE c C d S T g):PE c C d S T (.p4 o a b e g):=by
 intro k h
 have h:=Ad h
 have h2:=Ad h.2
 have h3:=Ad h2.2
 have h4:=Ad h3.2
 refine Gq ?_ fun _ _ _ h=>h
 have i1:=(i (k+2) h2.1).1
 have j1:=(j (k+2+sz a) h3.1).1
 have l1:=(l (k+2+sz a+sz b) h4.1).1
 have r1:=(r (k+2+sz a+sz b+sz e) h4.2).1
 have hb:=Cn T (k+2) h.1
 induction o using P4.casesOn with
 |find=>exact Qm O.m4 hb (B1 ..) (Ai ..) (Ai ..) (Ai ..) i1 j1 l1 r1
 |rfind=>exact Qm O.mr hb (B1 ..) (Ai ..) (Ai ..) (Ai ..) i1 j1 l1 r1
include O in
theorem dG(o:P2)(a b:E)(i:PE c C d S T a)(j:PE c C d S T b):PE c C d S T (.m2 o a b):=by
 intro k h
 have h:=Ad h
 have h1:=Ad h.1
 have h2:=Ad h.2
 refine Gq ?_ fun _ _ _ h=>h
 have he:o=.expand:=by
  induction o using P2.casesOn with
  |expand=>rfl
  |_=>exact ft h1.1
 subst he
 exact WK O.mx (Cn T _ h1.2) (B1 ..) (Ai ..) (i (k+2) h2.1).1 (j (k+2+sz a) h2.2).1
theorem NN{e:E}{t:Txt}(h:Lz e=some t):e=.lit (.str t):=by
 induction e using E.casesOn with
 |lit v=>induction v using Val.casesOn with
  |str x=>rw[ze h]
  |_=>exact nz h
 |_=>exact nz h
include O in
theorem dH(o:P3)(a b e:E)(i:PE c C d S T a)(j:PE c C d S T b)(g:PE c C d S T e):PE c C d S T (.m3 o a b e):=by
 intro k h
 refine Gq ?_ fun _ _ _ h=>h
 induction o using P3.casesOn with
 |find=>
  have h:=Ad h
  have h2:=Ad h.2
  have h3:=Ad h2.2
  exact WL O.mf (Cn T _ h.1) (B1 ..) (Ai ..) (Ai ..) (i (k+2) h2.1).1 (j (k+2+sz a) h3.1).1 (g (k+2+sz a+sz b) h3.2).1
 |replace=>
  have h:(ir T a b e && CV T a)=true:=h
  have h:=Ad h
  have h1:=h.1
  unfold ir at h1
  induction q:Lz b using zh with
  |none=>rw[q]at h1;exact ft h1
  |some u=>induction q':Lz e using zh with
   |none=>rw[q,q']at h1;exact ft h1
   |some v=>
    rw[q,q']at h1
    have h1:=Ad h1
    have h2:=Ad h1.2
    have h3:=Ad h2.2
    have e1:=NN q
    have e2:=NN q'
    subst e1;subst e2
    refine WO (O.Ah.trans h1.1) (Cn T _ h2.1) (B1 ..) ?_ (Df h3.2) (i (k+2) h.2).1
    induction hb:Bt u v using za with
    |false=>rfl
    |true=>rw[hb]at h3;exact ft h3.1
 |_=>exact ft h
end
end
section
set_option maxHeartbeats 4000000
section
variable {c:Cx}{C:Cfg}{S:Sx}{d:Nat}{T:Tb}{e a b g e':E}{es:Es}
variable (O:eZ c C d S T)(ok:EJ c)(HC:A4 c C d c.mth)
theorem dF(o:Bool)(es:Es)(i:SR c C d S T es):PE c C d S T (.bl o es):=fun k h=>(i (k+1) (Ad h).2).2 (DG (Ad h).1) o (T.p k)
theorem XV(a:E)(i:PE c C d S T a):PE c C d S T (.not_ a):=fun k h=>⟨WN (i (k+1) h).1,Y4 (i (k+1) h).2⟩
theorem XR(a b e:E)(i:PE c C d S T a)(j:PE c C d S T b)(g:PE c C d S T e):PE c C d S T (.ite a b e):=by
 intro k h
 have h:=Ad h
 have h2:=Ad h.2
 have i1:=i (k+1) h.1
 have j1:=j (k+1+sz a) h2.1
 have g1:=g (k+1+sz a+sz b) h2.2
 exact⟨WH i1.2 j1.1 g1.1,Y2 i1.2 j1.2 g1.2⟩
theorem XX(t:Bool)(es:Es)(i:SR c C d S T es):PE c C d S T (.seq t es):=by
 intro k h
 have h:=Ad h
 refine Gq ?_ fun _ _ _ h=>h
 have hl:(Ed T es (k+1)).length≤Az:=by rw[EU];exact Df h.1
 have i1:=(i (k+1) h.2).1
 induction t using za with
 |true=>exact WS hl (BR ..) i1
 |false=>exact WJ hl (BR ..) i1
theorem Ug(es:Es)(i:SR c C d S T es):PE c C d S T (.nlst es):=fun k h=>
 Gq (Tk (by rw[EU];exact Df (Ad h).1) (BR ..) (i (k+1) (Ad h).2).1) fun _ _ _ h=>h
theorem XQ(a:E)(i:PE c C d S T a):PE c C d S T (.app a):=fun k h=>
 Gq (WC (Q4 (Ad h).1).1 (Q4 (Ad h).1).2 (i (k+1) (Ad h).2).1) fun _ _ _ h=>h
include O in
theorem Uh(f:Nat)(a:E)(i:PE c C d S T a):PE c C d S T (.push f a):=fun k h=>
 Gq (Tm (Ct O (Ad h).1) (Ai ..) (i (k+2) (Ad h).2).1) fun _ _ _ h=>h
include O in
theorem Ue(f:Nat)(a:E)(i:PE c C d S T a):PE c C d S T (.apnd f a):=fun k h=>
 Gq (Th (Ct O (Ad h).1) (Ai ..) (B1 ..) (i (k+3) (Ad h).2).1) fun _ _ _ h=>h
theorem DH{b:Bool}(h:(!b)=true):b=false:=by induction b using za with |false=>rfl |true=>exact ft h
include O HC in
theorem RE(f:Nat)(es:Es)(i:SR c C d S T es):PE c C d S T (.fcall f es):=by
 intro k h
 have h:=Ad h
 have h1:=Ad h.1
 have h2:=Ad h1.2
 have hm:=DH h1.1
 exact CE (ZQ (O.Ah.trans hm) HC (O.fn f (Df (Ad h2.1).1) (DG (Ad h2.1).2) (AN h2.2) hm) (BR ..) (i (k+2) h.2).1) (fun _ _=>rfl) fun h=>h
include O HC in
theorem RI(f:Nat)(es:Es):PE c C d S T (.scall f es):=by
 intro k h
 have h:=Ad h
 have h1:=Ad h.1
 refine Ao (O.sk h1.1) fun s1 s2=>?_
 refine Gq ?_ fun _ _ _ h=>h
 induction es using Es.casesOn with
 |nil=>
  show AE c C d S _ (.Call (.Attribute (.Name T.self _) _ _) [] [] _)
  rw[←O.self]
  exact ZS (O.Ah.trans h1.1) s1 s2 HC (O.mt f (DG h1.2)) (B1 ..)
 |cons _ _=>exact ft h.2
include O HC in
theorem RH(f j:Nat)(es:Es)(i:SR c C d S T es):PE c C d S T (.mcall f j es):=by
 intro k h
 have h:=Ad h
 have h1:=Ad h.1
 have h2:=Ad h1.2
 have h3:=Ad h2.2
 exact CE (ZR (O.Ah.trans (DH h1.1)) HC (Ct O h3.1) (O.mt f (DG h2.1)) (B1 ..) (by rw[EU];exact DG h3.2) (BR ..) (i (k+3) h.2).1) (fun _ _=>rfl) fun h=>h
include O in
theorem XU(es:Es)(i:SR c C d S T es):PE c C d S T (.new es):=by
 intro k h
 have h:=Ad h
 have h1:=Ad h.1
 have h2:=Ad h.2
 refine Gq ?_ fun _ _ _ h=>h
 have hN:PI c C d S T.cls:=@eZ.new c C d S T O (DH h1.1) (AN h1.2)
 have i1:=(i (k+2) h2.2).1
 have hp:=BR T es (k+2)
 induction es using Es.casesOn with
 |nil=>exact ft h2.1
 |cons e es=>exact fun f A X EP R σ s K a h=>hN a hp (i1.go hp a h)
include O in
theorem RG(f:Nat)(a:E)(i:PE c C d S T a):PE c C d S T (.icall f a):=fun k h=>
 CE (O.ic f (T.p (k+1)) (T.p k) (AH T.names f) (Ct O (Ad h).1) (Ai ..) (i (k+2) (Ad h).2).1) (fun _ _=>rfl) fun h=>h
include O in
theorem XY(f:Nat)(a:E)(i:PE c C d S T a):PE c C d S T (.wal f a):=fun k h=>
 CE (WT (Ct O (Ad h).1) (O.loc _ (jh (O.names▸Ct O (Ad h).1))) (i (k+2) (Ad h).2).1) (fun _ _=>rfl) fun h=>h
theorem Ui:SR c C d S T .nil:=fun _ _=>⟨fun _ _ _ _ _ _ _ _ _ _ a h=>Hp.nil a.r h,fun h=>absurd h (Jm _)⟩
theorem RJ(e:E)(es:Es)(i:PE c C d S T e)(j:SR c C d S T es):SR c C d S T (.cons e es):=by
 intro k h
 have h:=Ad h
 refine Ao (i k h.1) fun i1 i2=>?_
 refine Ao (j (k+sz e) h.2) fun j1 j2=>?_
 refine⟨fun f A X EP R σ s pos K hp a h=>?_,fun _ o p=>?_⟩
 ·have hp:=Ad hp
  refine Hp.cons hp.1 fun Ev Q xo hq=>?_
  refine i1.go a h Ev Q xo fun l σ' R' rv s' le sm hk r hl=>hq l σ' R' rv s' le sm ?_ r hl
  obtain⟨v,hv,hk⟩:=Am hk
  rw[hv]
  exact fun R₁ s₁ le₁ sm₁ r₁=>j1.go hp.2 (a.up le₁ sm₁ r₁) hk
 ·induction es using Es.casesOn with
  |nil=>induction o using za with
   |true=>exact⟨P0 i1,U4 i2⟩
   |false=>exact⟨P0 i1,YW i2⟩
  |cons e' es=>
   refine Ao (j2 (jl _) o p) fun k1 k2=>?_
   induction o using za with
   |true=>exact⟨Ws i1 k1,YV i2 k2⟩
   |false=>exact⟨ZF i1 k1,eI i2 k2⟩
include O ok HC in
theorem Vp(e:E):PE c C d S T e:=
 @E.rec (PE c C d S T) (SR c C d S T) XS (Uf O ok) (XT O) (XW O ok) (dI O) (dJ O) (dK O) (dM O) (dG O) (dH O) dF XV XR XX Ug XQ (Uh O) (Ue O) (RE O HC) (fun f es _=>RI O HC f es) (RH O HC) (XU O) (RG O) (XY O) Ui RJ e
end
end
section
inductive Ix(c:Cx)(R:Rec):Out→Flow→Prop
 |next:Ix c R .next .next
 |brk:Ix c R .brk .brk
 |cont:Ix c R .cont .cont
 |ret {l:LV} {rv:Value} (h:LR c R l rv):Ix c R (.ret l) (.ret rv)
noncomputable def Pz(c:Cx)(C:Cfg)(d:Nat)(S:Sx)(ss:Ss)(xs:List Stmt):Prop:=
 ∀(f:Fx) (A:Around) (X:A7→St→Prop) (R:Rec) (σ:St) (s:Shared) (K:Out→St→Prop),At c S d f A X R σ s→Ay C X ss K σ→
  ∀(Ev:Value→Shared→Prop) (Q:Flow→Shared→Prop),(∀o σ' R' fl s',R.le R'→Ar s s'→K o σ'→Al c f R' σ' s'.heap→Ix c R' o fl→Q fl s')→wpAny (model c.prog c.w) A (execs xs f.env) Q Ev s
noncomputable def Ho(c:Cx)(C:Cfg)(d:Nat)(S:Sx)(st:Ak.S)(x:Stmt):Prop:=
 ∀(f:Fx) (A:Around) (X:A7→St→Prop) (R:Rec) (σ:St) (s:Shared) (K:Out→St→Prop),At c S d f A X R σ s→kY C X st K σ→
  ∀(Ev:Value→Shared→Prop) (Q:Flow→Shared→Prop),(∀o σ' R' fl s',R.le R'→Ar s s'→K o σ'→Al c f R' σ' s'.heap→Ix c R' o fl→Q fl s')→wpAny (model c.prog c.w) A (exec x f.env) Q Ev s
noncomputable def C4(x:PySem.Expr):Bool:=Nat.ble 8 x.ctorIdx && Nat.ble x.ctorIdx 10
theorem DY{x:PySem.Expr}{t:Option PySem.Expr}{l:Nat}{env:Env}(h:C4 x=false):swapsWith x t l env=pure false:=by
 cases x <;>first |rfl |cases h
theorem KA{ts:List PySem.Expr}{x:PySem.Expr}{l:Nat}{env:Env}(h:C4 x=false):swapsWithSole ts x l env=pure false:=by
 induction ts using zi with
 |nil=>rfl
 |cons t r=>induction r using zi with
  |nil=>exact DY h
  |cons _ _=>rfl
theorem L9{X:A7→St→Prop}(h:Nd X){R:Rec}{s:Shared}{EP:HN}{Ev:Value→Shared→Prop}:PJ R s X EP Ev:=fun x σ' _ _ _ _ _ hx _=>(h x σ' hx).elim
noncomputable def Ee:HN:=fun _ _ _ _ _=>False
section
variable {c:Cx}{C:Cfg}{S:Sx}{d:Nat}{f:Fx}{A:Around}{X:A7→St→Prop}{R R':Rec}{σ σ':St}{s s':Shared}{m:Str→Option Value}{led:List (Addr×Obj)}{Ev:Value→Shared→Prop}
noncomputable def St.LT(σ:St):T→LV→St
 | .loc k,v=>σ.DD k v
 | .sat k,v=>σ.Sd k v
noncomputable def Nf(c:Cx)(S:Sx)(t:T)(x:PySem.Expr):Prop:=
 (∀{d:Nat} {f:Fx} {A:Around} {X:A7→St→Prop} {R:Rec} {σ:St} {s:Shared} {Ev:Value→Shared→Prop},At c S d f A X R σ s→∀(v:LV) (rv:Value),LR c R v rv→∀(Q:Unit→Shared→Prop),(∀s',Ar s s'→Al c f R (σ.LT t v) s'.heap→Q () s')→
  wpAny (model c.prog c.w) A (assign x f.env rv) Q Ev s)∧∀xs env,assignEach (x::xs) env=(false,assign x env)::assignEach xs env
noncomputable def Hu(c:Cx)(S:Sx):List T→List PySem.Expr→Prop
 |[],[]=>True
 |t::ts,x::xs=>Nf c S t x∧Hu c S ts xs
 |_,_=>False
theorem YR{k:Nat}{n:Str}{p:Pos}(h:S.names[k]? =some n)(hf:S.cs.names.lookup n≠some .free):Nf c S (.loc k) (.Name n p):=by
 refine⟨fun a v rv hv Q hq=>?_,fun _ _=>rfl⟩
 refine Aq a.r fun m led r=>?_
 exact wpAny_assign_Name (BS a.G a.NM r (by rw[a.names];exact h) (by rw[a.cs];exact hf) hv hq)
theorem YS(ok:EJ c){k:Nat}{n:Str}{p q:Pos}(hm:S.Ah=true)(hk:S.cs.names.lookup c.self=some .local)(hd:(c.self==("__debug__":Str))=false)(h:c.attrs[k]? =some n):Nf c S (.sat k) (.Attribute (.Name c.self p) n q):=by
 refine⟨fun a v rv hv Q hq=>?_,fun _ _=>rfl⟩
 refine Aq (NC a hm) fun x dx hsd=>?_
 rw[assign_Attribute]
 refine zn (jj (Fe a hsd hk hd ?_))
 refine zn (JQ (zn (jj (Oa ok a hsd h hv fun s' sm r'=>?_))))
 exact fun Γ p hΓ=>by rw[Sem.wp_release];exact hq s' sm r'
theorem F0{t:T}{ts:List T}{v:LV}{vs:List LV}{σ σ₁:St}(h:stores (t::ts) (v::vs) σ=some σ₁):stores ts vs (σ.LT t v)=some σ₁:=by cases t <;>exact h
theorem Iq{t:T}{ts:List T}{σ σ₁:St}{P:Prop}(h:stores (t::ts) [] σ=some σ₁):P:=by cases t <;>exact nz h
theorem Nm:∀{ts:List T} {xs:List PySem.Expr},Hu c S ts xs→∀{vs:List Val} {rvs:List Value} {σ σ₁:St} {s:Shared},At c S d f A X R σ s→c.Vs R vs rvs→stores ts (TS vs) σ=some σ₁→
  ∀{Q:Unit→Shared→Prop},(∀s',Ar s s'→Al c f R σ₁ s'.heap→Q () s')→wpAny (model c.prog c.w) A (assignInOrder (xs.map fun x=>assign x f.env) rvs) Q Ev s
 |[],[],_,[],rvs,σ,σ₁,s,a,hv,h,Q,hq=>by
  rw[Bv.Fu hv,←ze h]at*
  exact zG (hq s (.refl s) a.r)
 |[],[],_,_::_,_,_,_,_,_,_,h,_,_=>nz h
 |t::ts,_::_,_,[],_,_,_,_,_,_,h,_,_=>Iq h
 |t::ts,x::xs,⟨ht,hts⟩,v::vs,rvs,σ,σ₁,s,a,hv,h,Q,hq=>by
  refine Ba (Bv.Cc hv) fun rv us hq2 h1 h2=>?_;subst hq2
  refine zn (jj (ht.1 a _ _ (.v h1) _ fun s' sm r'=>?_))
  exact Nm hts (a.up (.refl R) sm r') h2 (F0 h) fun s'' sm' r''=>hq s'' (sm.trans sm') r''
 |[],_::_,ht,_,_,_,_,_,_,_,_,_,_=>ht.elim
 |_::_,[],ht,_,_,_,_,_,_,_,_,_,_=>ht.elim
theorem CF{env:Env}:∀{ts:List T} {xs:List PySem.Expr},Hu c S ts xs→(assignEach xs env).map (fun p=>p.2)=xs.map (fun x=>assign x env)∧(assignEach xs env).findIdx? (fun p=>p.1)=none∧(assignEach xs env).length=xs.length
 |[],[],_=>⟨rfl,rfl,rfl⟩
 |t::ts,x::xs,⟨ht,hts⟩=>by
  refine Bi (CF (env:=env) hts) fun h1 h2 h3=>?_
  rw[ht.2]
  refine⟨by rw[JY,h1,JY],?_,by rw[zy,h3,zy]⟩
  rw[List.findIdx?_cons,h2]
  rfl
 |[],_::_,ht=>ht.elim
 |_::_,[],ht=>ht.elim
theorem ED:∀{ts:List T} {vs:List LV} {σ σ₁:St},stores ts vs σ=some σ₁→ts.length=vs.length
 |[],[],_,_,_=>rfl
 |[],_::_,_,_,h=>nz h
 |_::_,[],_,_,h=>Iq h
 |t::ts,v::vs,σ,σ₁,h=>zB (· +1) (ED (F0 h))
theorem Hu.len:∀{ts:List T} {xs:List PySem.Expr},Hu c S ts xs→ts.length=xs.length
 |[],[],_=>rfl
 |_::_,_::_,h=>zB (· +1) (Hu.len h.2)
 |[],_::_,h=>h.elim
 |_::_,[],h=>h.elim
theorem Kb:∀vs:List Val,(TS vs).length=vs.length
 |[]=>rfl
 |_::r=>zB (· +1) (Kb r)
theorem items(a:At c S d f A X R σ s){tup:Bool}{xs:List Val}{rv:Value}{n:Nat}(hx:VH c R s.heap (.seq tup xs) rv)(hn:n=xs.length){Q:List Value→Shared→Prop}
  (hq:∀vs s',Ar s s'→Al c f R σ s'.heap→c.Vs R xs vs→Q vs s'):wpAny (model c.prog c.w) A (unpackItems rv n none) Q Ev s:=by
 refine Aq a.r fun m led r=>?_
 refine AR (hx.seq r) fun ad vs k hq3 hg hl hs=>?_;subst hq3
 have hsz:n=vs.toArray.size:=by rw[zY,hs.length];exact hn
 induction tup using za with
 |true=>exact unpackItemsN_ r.F r.N (Dk hg) a.G.hh hsz fun h' F N=>hq _ _ AB ⟨m,led,r.heap F N⟩ hs
 |false=>exact kun_items r.F r.N (AF hg) a.G.hh hsz fun h' F N=>hq _ _ AB ⟨m,led,r.heap F N⟩ hs
theorem L5{ts:List T}{xs:List PySem.Expr}(ht:Hu c S ts xs)(a:At c S d f A X R σ s){tup:Bool}{vs:List Val}{rv:Value}{σ₁:St}(hv:c.V R (.seq tup vs) rv)(h:stores ts (TS vs) σ=some σ₁)
  {Q:Unit→Shared→Prop} (hq:∀s',Ar s s'→Al c f R σ₁ s'.heap→Q () s'):wpAny (model c.prog c.w) A (unpack rv (assignEach xs f.env)) Q Ev s:=by
 refine Bi (CF (env:=f.env) ht) fun h1 h2 h3=>?_
 unfold unpack
 rw[h1,h2,h3]
 refine zn (jj (items a (.of hv) ?_ fun rvs s' sm r' hvs=>?_))
 ·rw[←ht.len,ED h,Kb]
 ·exact Nm ht (a.up (.refl R) sm r') hvs h fun s'' sm' r''=>hq s'' (sm.trans sm') r''
end
end
section
structure Rec.HG(R R':Rec):Prop where
 ρ:∃t,R'.ρ=R.ρ++t
 zs:∀p∈R.zs,p∈R'.zs
theorem Rec.le.v{R R':Rec}(h:R.le R'):R.HG R':=⟨h.ρ,h.zs⟩
theorem Rec.HG.refl(R:Rec):R.HG R:=⟨⟨[],by simp⟩,fun _ h=>h⟩
theorem chain{R l t:List Addr}(h1:∃a,l=R++a)(h2:∃b,t=l++b):∃b,t=R++b:=
 zg h1 fun a e1=>zg h2 fun b e2=>⟨a++b,e2.trans (e1▸zk R a b)⟩
theorem Rec.HG.trans{R R' R'':Rec}(a:R.HG R')(b:R'.HG R''):R.HG R'':=by
 exact⟨chain a.ρ b.ρ,fun p h=>b.zs p (a.zs p h)⟩
theorem V.fX{c:Cx}{R R':Rec}(h:R.HG R'){x:Val}{v:Value}(y:c.V R x v):c.V R' x v:=VR.mono (fun _ _ z=>z.imp id fun z=>h.zs _ z) h.ρ y
structure EK(c:Cx)(A:Around)(target:PySem.Expr)(I:Addr)(fp wr:List Addr)(xs:List Val)(St:Nat→Heap→Prop)(R₀:Rec):Prop where
 sub:∀b∈wr,b∈fp
 nd:wr.Nodup
 pres:∀i h,St i h→∀b∈wr,(h.get? b).isSome=true
 frame:∀i h h',St i h→(∀b∈fp,∀o,h.get? b=some o→h'.get? b=some o)→St i h'
 item:∀(i:Nat) (x:Val) (s:Shared) (Q:Value→Shared→Prop) (E:Value→Shared→Prop),xs[i]? =some x→St i s.heap→
  (∀(v:Value) (h':Heap) (tk:Nat) (nw:Option (Addr×Obj)),St (i+1) h'→(∀b o,b∉wr→s.heap.get? b=some o→h'.get? b=some o)→(∀p,nw=some p→h'.get? p.1=some p.2∧s.heap.objs.size≤p.1∧p.1∉wr)→
   (∀R',R₀.HG R'→(∀p,nw=some p→p∈R'.zs)→c.V R' x v)→Q v {s with heap:=h',toks:=tk})→
  wpAny (model c.prog c.w) A (pyNext (.ref I)) (fun r s₁=>∃v,r=some v∧wpAny (model c.prog c.w) A (letOwnedTupleGo target (.ref I) v) (fun _ s₂=>Q v s₂) E s₁) E s
 done:∀(s:Shared) (Q:Option Value→Shared→Prop) (E:Value→Shared→Prop),St xs.length s.heap→
  (∀h' tk,(∀b o,b∉wr→s.heap.get? b=some o→h'.get? b=some o)→Q none {s with heap:=h',toks:=tk})→wpAny (model c.prog c.w) A (pyNext (.ref I)) Q E s
section
variable {c:Cx}{C:Cfg}{S:Sx}{d:Nat}{f:Fx}{A:Around}{X:A7→St→Prop}{R R' R₀:Rec}{σ σ':St}{s s':Shared}{m:Str→Option Value}{led own:List (Addr×Obj)}{Ev:Value→Shared→Prop}{h h':Heap}{wr:List Addr}
noncomputable def Rec.EX(R:Rec)(ex:List (Addr×Obj)):Rec:=⟨R.ρ,R.ω,R.zs,ex,R.sd⟩
theorem LR.EX{l:LV}{rv:Value}{ex:List (Addr×Obj)}(h:LR c R l rv):LR c (R.EX ex) l rv:=by
 induction h using LR.casesOn with
 |v y=>exact .v y
 |loc e=>exact .loc e
 |app e q=>exact .app e q
 |fn z=>exact .fn (Nc.mono (R:=R) (R':=R.EX ex) (fun _ h=>h) ⟨[],(zL _).symm⟩ z)
theorem LR.Ib{l:LV}{rv:Value}{ex:List (Addr×Obj)}(h:LR c (R.EX ex) l rv):LR c R l rv:=by
 induction h using LR.casesOn with
 |v y=>exact .v y
 |loc e=>exact .loc e
 |app e q=>exact .app e q
 |fn z=>exact .fn (Nc.mono (R:=R.EX ex) (R':=R) (fun _ h=>h) ⟨[],(zL _).symm⟩ z)
theorem Aj.EX{fs:List (Option LV)}{es:List DictEntry}{ex:List (Addr×Obj)}(y:Aj c R fs es):Aj c (R.EX ex) fs es:=Aj.same (fun _ _ z=>z.EX) y
theorem Aj.Ib{fs:List (Option LV)}{es:List DictEntry}{ex:List (Addr×Obj)}(y:Aj c (R.EX ex) fs es):Aj c R fs es:=Aj.same (fun _ _ z=>z.Ib) y
theorem Rel.Wq(r:Rel c f R σ h m led)(hn:(own.map fun p:Addr×Obj=>p.1).Nodup)(ho:∀p∈own,h.get? p.1=some p.2∧p.1≠f.L∧f.h₀.get? p.1=none)(hd:∀p∈own,∀q∈led,p.1≠q.1):
  Rel c f (R.EX (own++R.ex)) σ h m (own++led):=by
 have mk:∀a,Hr f (R.EX (own++R.ex)) a→Hr f R a:=fun a h=>h
 have ne:∀a,Hr f R a→∀p∈own,p.1≠a:=fun a ha p hp e=>by
  refine Ab (zK.mp (r.ml a ha)) fun q hq e'=>?_
  exact hd p hp q hq (e.trans e'.symm)
 refine{F:=r.F,N:=fun p hp=>?_,nd:=?_,slots:=fun k n v hk hv=>?_,clo:=fun n a ha=>?_,self:=fun x dx e=>?_,self0:=r.self0,ml:=fun a ha=>?_,hlen:=r.hlen,cells:=fun j fs hj=>?_,oln:=r.oln,owns:=fun k xs hk=>?_,zs:=fun p hp=>zj _ (r.zs p hp),ex:=fun p hp=>?_,D1:=r.D1,D2:=r.D2,D3:=fun a ha p hp=>?_,D4:=fun p hp q hq=>?_,B:=r.B}
 ·rcases zF.mp hp with hp |hp
  ·exact ho p hp
  ·exact r.N p hp
 ·rw[jm,z8]
  refine⟨hn,r.nd,fun a ha b hb e=>?_⟩
  refine Ab (zK.mp ha) fun p hp hq2=>?_;subst hq2
  refine Ab (zK.mp hb) fun q hq hq2=>?_;subst hq2
  exact hd p hp q hq e
 ·exact Cz (fun a o a1 a2=>zj _ a2) (fun _ b=>b.EX) (r.slots k n v hk hv)
 ·refine A6 (r.clo n a ha) fun o v a1 a2=>?_
  exact⟨o,v,zj _ a1,a2⟩
 ·obtain⟨a1,a2,es,n,a3,a4⟩:=r.self x dx e
  exact⟨a1,a2,es,n,zj _ a3,a4.EX⟩
 ·rw[jm];exact zj _ (r.ml a ha)
 ·refine CS (r.cells j fs hj) fun a es n a1 a2 a3=>?_
  exact⟨a,es,n,a1,zj _ a2,a3.EX⟩
 ·refine AR (r.owns k xs hk) fun a vs n a1 a2 a3 a4=>?_
  exact⟨a,vs,n,a1,zj _ a2,a3,a4⟩
 ·rcases zF.mp hp with hp |hp
  ·exact zr _ hp
  ·exact zj _ (r.ex p hp)
 ·rcases zF.mp hp with hp |hp
  ·exact r.D3 a ha p (zr _ hp)
  ·rcases zF.mp hp with hp |hp
   ·exact ne a ha p hp
   ·exact r.D3 a ha p (zj _ hp)
 ·rcases zF.mp hq with hq |hq
  ·exact fun e=>hd q hq p (r.zs p hp) e.symm
  ·exact r.D4 p hp q hq
theorem Rel.apart{ex:List (Addr×Obj)}(r:Rel c f (R.EX (own++ex)) σ h m led)(hw:own.map (fun p:Addr×Obj=>p.1)=wr)(hx:∀p∈ex,p.1∉wr):Rel c f (R.EX ex) σ h m (led.filter fun p=> !(wr.contains p.1)):=by
 have inw:∀{a},a∈wr→∃p∈own,p.1=a:=fun{a} h=>by rw[←hw]at h;exact zK.mp h
 have keep:∀{p:Addr×Obj},p∈led→p.1∉wr→p∈led.filter fun p=> !(wr.contains p.1):=fun{p} h1 h2=>jf.mpr ⟨h1,by rw[jG,zJ h2];rfl⟩
 have mutw:∀{a},Hr f R a→a∉wr:=fun{a} ha hb=>by
  refine Ab (inw hb) fun p hp e=>?_
  exact r.D3 a ha p (zj _ (zr _ hp)) e
 refine{F:=r.F,N:=fun p hp=>r.N p (jf.mp hp).1,nd:=(List.Sublist.map _ List.filter_sublist).nodup r.nd,slots:=fun k n v hk hv=>?_,clo:=fun n a ha=>?_,self:=fun x dx e=>?_,self0:=r.self0,ml:=fun a ha=>?_,hlen:=r.hlen,cells:=fun j fs hj=>?_,oln:=r.oln,owns:=fun k xs hk=>?_,zs:=fun p hp=>?_,ex:=fun p hp=>keep (r.ex p (zj _ hp)) (hx p hp),D1:=r.D1,D2:=r.D2,D3:=fun a ha p hp=>?_,D4:=fun p hp q hq=>r.D4 p hp q (zj _ hq),B:=r.B}
 ·exact Cz (fun a o a1 a2=>keep a2 (mutw (.inr (.inr (.inl (lookup_mem a1)))))) (fun _ b=>b.Ib.EX) (r.slots k n v hk hv)
 ·refine A6 (r.clo n a ha) fun o v a1 a2=>?_
  exact⟨o,v,keep a1 (mutw (.inr (.inr (.inl (lookup_mem ha))))),a2⟩
 ·obtain⟨a1,a2,es,n,a3,a4⟩:=r.self x dx e
  exact⟨a1,a2,es,n,keep a3 (mutw (.inr (.inr (.inr ⟨x,e⟩)))),a4.Ib.EX⟩
 ·refine Ab (zK.mp (r.ml a ha)) fun p hp e=>?_
  exact zK.mpr ⟨p,keep hp (by rw[e];exact mutw ha),e⟩
 ·refine CS (r.cells j fs hj) fun a es n a1 a2 a3=>?_
  exact⟨a,es,n,a1,keep a2 (mutw (.inl (Av a1))),a3.Ib.EX⟩
 ·refine AR (r.owns k xs hk) fun a vs n a1 a2 a3 a4=>?_
  exact⟨a,vs,n,a1,keep a2 (mutw (.inr (.inl (Av a1)))),a3,a4⟩
 ·refine keep (r.zs p hp) fun hb=>?_
  refine Ab (inw hb) fun q hq e=>?_
  exact r.D4 p hp q (zr _ hq) e.symm
 ·rcases zF.mp hp with hp |hp
  ·exact r.D3 a ha p (zr _ hp)
  ·exact r.D3 a ha p (zj _ (zj _ hp))
noncomputable def ownOf(wr:List Addr)(h:Heap):List (Addr×Obj):=wr.filterMap fun b=>(h.get? b).map fun o=>(b,o)
theorem G4{h:Heap}:∀{wr:List Addr},(∀b∈wr,(h.get? b).isSome=true)→(ownOf wr h).map (fun p:Addr×Obj=>p.1)=wr
 |[],_=>rfl
 |b::r,hp=>by
  refine zg (JX.mp (hp b (.head _))) fun o ho=>?_
  have ih:=G4 (wr:=r) fun b' hb=>hp b' (.tail _ hb)
  unfold ownOf at ih ⊢
  rw[Jw,ho]
  simp only[Option.map_some,JY,ih]
theorem Ic{h:Heap}{wr:List Addr}{p:Addr×Obj}(hp:p∈ownOf wr h):p.1∈wr∧h.get? p.1=some p.2:=by
 unfold ownOf at hp
 refine Ab (List.mem_filterMap.mp hp) fun b hb e=>?_
 induction q:h.get? b using zh with
 |none=>rw[q]at e;cases e
 |some o=>rw[q]at e;cases e;exact⟨hb,q⟩
structure LoopAt(c:Cx)(S:Sx)(d:Nat)(f:Fx)(A:Around)(X:A7→St→Prop)(wr:List Addr)(R:Rec)(σ:St)(s:Shared):Prop where
 a:At c S d f A X R σ s
 off:∃m led,Rel c f R σ s.heap m led∧∀p∈led,p.1∉wr
theorem fr_but{h h':Heap}(F:Fr f.h₀ f.L h m)(hL:f.L∉wr)(hw:∀b∈wr,f.h₀.get? b=none)(hk:∀b o,b∉wr→h.get? b=some o→h'.get? b=some o):Fr f.h₀ f.L h' m:=by
 refine DE F.ns fun oL a1 a2 hoL a3=>?_
 refine⟨⟨oL,a1,a2,hk _ _ hL hoL,a3⟩,fun b x e=>hk b x (fun hb=>?_) (F.keep b x e),F.above⟩
 rw[hw b hb]at e;cases e
theorem news_but{h h':Heap}(N:News f.h₀ f.L h led)(hl:∀p∈led,p.1∉wr)(hk:∀b o,b∉wr→h.get? b=some o→h'.get? b=some o):News f.h₀ f.L h' led:=
 fun p hp=>⟨hk _ _ (hl p hp) (N p hp).1,(N p hp).2.1,(N p hp).2.2⟩
noncomputable def Ng(c:Cx)(S:Sx)(ts:List T)(target:PySem.Expr):Prop:=
 ∀{d:Nat} {f:Fx} {A:Around} {X:A7→St→Prop} {R:Rec} {σ σ₁:St} {s:Shared} {x:Val} {v:Value} {Ev:Value→Shared→Prop} {Q:Unit→Shared→Prop},At c S d f A X R σ s→c.V R x v→BU ts x σ=some σ₁→
  (∀s',Ar s s'→Al c f R σ₁ s'.heap→Q () s')→wpAny (model c.prog c.w) A (assign target f.env v) Q Ev s
theorem EK.next{target:PySem.Expr}{I:Addr}{fp:List Addr}{xs:List Val}{Stt:Nat→Heap→Prop}(W:EK c A target I fp wr xs Stt R₀){i:Nat}{x:Val}{G:Option Value→Shared→Prop}{P:Value→Shared→Prop}{E:Value→Shared→Prop}(hx:xs[i]? =some x)(hst:Stt i s.heap)
  (hG:∀v s₁,wpAny (model c.prog c.w) A (letOwnedTupleGo target (.ref I) v) (fun _ s₂=>P v s₂) E s₁→G (some v) s₁)
  (k:∀(v:Value) (h':Heap) (tk:Nat) (nw:Option (Addr×Obj)),s.toks≤tk→Stt (i+1) h'→(∀b o,b∉wr→s.heap.get? b=some o→h'.get? b=some o)→(∀p,nw=some p→h'.get? p.1=some p.2∧s.heap.objs.size≤p.1∧p.1∉wr)→
   (∀R',R₀.HG R'→(∀p,nw=some p→p∈R'.zs)→c.V R' x v)→P v {s with heap:=h',toks:=tk}):wpAny (model c.prog c.w) A (pyNext (.ref I)) G E s:=
 zZ (wpAny_toks (W.item i x s (fun v s₂=>s.toks≤s₂.toks→P v s₂) E hx hst fun v h' tk nw b1 b2 b3 b4 ht=>k v h' tk nw ht b1 b2 b3 b4))
  (fun _ s₁ hr=>zg hr.1 fun v y=>y.1▸hG v s₁ (zZ (wpAny_toks y.2) (fun _ _ h=>h.1 (zl hr.2 h.2)) fun _ _ h=>h.1)) fun _ _ h=>h.1
theorem Sz{nw:Option (Addr×Obj)}(r:Rel c f R σ s.heap m led)(hoff:∀p∈led,p.1∉wr)(hL:f.L∉wr)(hwh:∀b∈wr,f.h₀.get? b=none)(hk:∀b o,b∉wr→s.heap.get? b=some o→h'.get? b=some o)
  (hnw:∀p,nw=some p→h'.get? p.1=some p.2∧s.heap.objs.size≤p.1∧p.1∉wr) {P:Prop} (k:∀R₁ led₁,R.le R₁→Rel c f R₁ σ h' m led₁→(∀p,nw=some p→p∈R₁.zs)→(∀p∈led₁,p.1∉wr)→P):P:=by
 have F':=fr_but r.F hL hwh hk
 have N':=news_but r.N hoff hk
 have r₁:=r.heap F' N'
 induction nw using zh with
 |none=>exact k R led (.refl R) r₁ (fun _ h=>nomatch h) hoff
 |some p=>
  refine Bi (hnw p rfl) fun g1 g2 g3=>?_
  have hlt:∀q∈led,q.1 < p.1:=fun q hq=>zO (jv (r.N q hq).1) g2
  have hLn:p.1≠f.L:=DE r.F.ns fun oL _ _ hoL _=>Nat.ne_of_gt (zO (jv hoL) g2)
  refine zg (r₁.frozen F' (a:=p.1) (o:=p.2) (fun q hq=>(z5.mp hq).elim (fun e=>e▸⟨g1,hLn,ktu_new r.F g2⟩) (N' q)) hlt) fun R₁ y=>k R₁ _ y.1 y.2.1 (fun q hq=>ze hq▸y.2.2.1) fun q hq=>?_
  exact(z5.mp hq).elim (fun e=>e▸g3) (hoff q)
theorem U5{R₁:Rec}{tk:Nat}{led₁:List (Addr×Obj)}(a:At c S d f A X R σ s)(le₁:R.le R₁)(r₁:Rel c f R₁ σ h' m led₁)(hoff:∀p∈led₁,p.1∉wr)(hL:f.L∉wr)(hwh:∀b∈wr,f.h₀.get? b=none)(hnd:wr.Nodup)(hkeys:(ownOf wr h').map (fun p:Addr×Obj=>p.1)=wr)(ht:s.toks≤tk):
  At c S d f A X (R₁.EX (ownOf wr h'++R₁.ex)) σ {s with heap:=h',toks:=tk}:=
 ⟨a.G,a.NM,a.names,a.cs,by show R₁.sd.isSome=S.Ah;rw[le₁.sd];exact a.Ah,fun h=>zO (a.pos h) ht,⟨m,_,r₁.Wq (own:=ownOf wr h') (by rw[hkeys];exact hnd) (fun p hp=>Ao (Ic hp) fun q1 q2=>⟨q2,fun e=>hL (e▸q1),hwh _ q1⟩) fun p hp q hq e=>hoff q hq (e▸(Ic hp).1)⟩,a.nv⟩
theorem SC{R₁:Rec}{m':Str→Option Value}{led₁ led':List (Addr×Obj)}(a:At c S d f A X R σ s)(le₁:R.le R₁)(r₁:Rel c f R₁ σ h m led₁)(hoff:∀p∈led₁,p.1∉wr)(hkeys:own.map (fun p:Addr×Obj=>p.1)=wr)(le':(R₁.EX (own++R₁.ex)).le R')(r':Rel c f R' σ' s'.heap m' led')(sm:Ar s s'):
  R.le (R'.EX R₁.ex)∧LoopAt c S d f A X wr (R'.EX R₁.ex) σ' s':=by
 have eex:R'.ex=own++R₁.ex:=le'.ex
 have eR:R'=R'.EX (own++R₁.ex):=eex▸rfl
 have ra:=(show Rel c f (R'.EX (own++R₁.ex)) σ' s'.heap m' led' from eR▸r').apart hkeys fun p hp=>hoff p (r₁.ex p hp)
 refine⟨⟨chain (R:=R.ρ) le₁.ρ le'.ρ,chain (R:=R.ω) le₁.ω le'.ω,fun p hp=>le'.zs p (le₁.zs p hp),le₁.ex,le'.sd.trans le₁.sd⟩,⟨a.G,a.NM,a.names,a.cs,?_,fun h=>zO (a.pos h) sm.tk,⟨m',_,ra⟩,a.nv⟩,⟨m',_,ra,fun p hp hb=>?_⟩⟩
 ·show R'.sd.isSome=S.Ah;rw[le'.sd.trans le₁.sd];exact a.Ah
 ·exact absurd (jf.mp hp).2 (by rw[jG,js hb];exact nofun)
theorem M4{R₁:Rec}{fp:List Addr}{ex:List (Addr×Obj)}{m':Str→Option Value}{led₁ led':List (Addr×Obj)}(r₁:Rel c f R₁ σ h m led₁)(le':(R₁.EX (ownOf wr h++ex)).le R')(r':Rel c f R' σ' h' m' led')(hfix:∀b∈fp,b∉wr→∃o,c.Z R₁ b o):∀b∈fp,∀o,h.get? b=some o→h'.get? b=some o:=fun b hb o ho=>by
 by_cases hw:b∈wr
 ·exact r'.BN (r'.ex _ (by rw[show R'.ex=_ from le'.ex];exact zr _ (List.mem_filterMap.mpr ⟨b,hw,by rw[ho];rfl⟩)))
 ·refine zg (hfix b hb hw) fun o' ho'=>?_
  rw[ze (ho.symm.trans (r₁.get ho'))]
  exact r'.get (ho'.imp id fun z=>le'.zs _ z)
noncomputable def LI(c:Cx)(S:Sx)(d:Nat)(f:Fx)(A:Around)(X:A7→St→Prop)(wr:List Addr)(R₀ Rs:Rec)(ss:Shared)(Stt:Nat→Heap→Prop)(l:Nat)(F:Nat→St→Prop)(n:Nat)(s:Shared):Prop:=
 ∃i R σ,n+i=l∧R₀.HG R∧Rs.le R∧Ar ss s∧LoopAt c S d f A X wr R σ s∧Stt i s.heap∧F i σ
theorem OK{target:PySem.Expr}{I:Addr}{fp wr:List Addr}{xs:List Val}{Stt:Nat→Heap→Prop}{ts:List T}{b:Ss}{body:List Stmt}{R₀:Rec}(W:EK c A target I fp wr xs Stt R₀)(hT:Ng c S ts target)(hB:Pz c C d S b body)
  (hL:f.L∉wr) (hwh:∀b∈wr,f.h₀.get? b=none) (hfix:∀R,R₀.HG R→∀b∈fp,b∉wr→∃o,c.Z R b o) {K:Out→St→Prop} {Rs:Rec} {ss:Shared} {Q:Flow→Shared→Prop}
  (hq:∀o σ' R' fl s',Rs.le R'→Ar ss s'→K o σ'→Al c f R' σ' s'.heap→Ix c R' o fl→Q fl s'):
  ∀(n i:Nat) (R:Rec) (σ:St) (s:Shared),n+i=xs.length→R₀.HG R→Rs.le R→Ar ss s→LoopAt c S d f A X wr R σ s→Stt i s.heap→forL (BU ts) (Ay C X b) K (xs.drop i) σ→
   codeAny (model c.prog c.w) A (.forLoop target (.ref I) body [] f.env) (fun r s'=>match r with | .ok fl=>Q fl s' | .error e=>cameBackBy (model c.prog c.w) A f.env Ev e s') s:=by
 refine fun n i R σ s hn h0 hRs hss hla hst hfor=>codeAny_forLoop_any (LI c S d f A X wr R₀ Rs ss Stt xs.length fun i=>forL (BU ts) (Ay C X b) K (xs.drop i)) ?_ n ⟨i,R,σ,hn,h0,hRs,hss,hla,hst,hfor⟩
 clear hn h0 hRs hss hla hst hfor i R σ s n
 refine fun n s h=>eV h fun i R σ hn h0 hRs hss hla hst hfor=>A6 hla.off fun m led r hoff=>?_
 replace hfor:forL (BU ts) (Ay C X b) K (xs.drop i) σ:=hfor
 induction n using zE with
 |zero=>
  have hi:i=xs.length:=(jD i).symm.trans hn
  rw[hi,jq (zw _)]at hfor
  refine Gl (W.done s _ _ (hi▸hst) fun h' tk hk ht=>?_)
  refine wpAny_execs_nil ?_
  exact hq .next σ R .next _ hRs (hss.trans (An ht)) hfor ⟨m,led,r.heap (fr_but r.F hL hwh hk) (news_but r.N hoff hk)⟩ .next
 |succ n=>
  have hi:i < xs.length:=hn▸(Nat.lt_add_of_pos_left (jl n))
  rw[j7 hi]at hfor
  refine Ab (Ae hfor) fun σ₁ hσ₁ hbody=>?_
  refine W.next (jc hi) hst (fun v s₁ h=>h) fun v h' tk nw ht hst' hk hnw hV=>?_
  refine Sz r hoff hL hwh hk hnw fun R₁ led₁ le₁ r₁ hz₁ hoff₁=>?_
  have hkeys:=G4 (wr:=wr) (h:=h') (W.pres _ _ hst')
  have h01:R₀.HG R₁:=h0.trans le₁.v
  have at₂:=U5 hla.a le₁ r₁ hoff₁ hL hwh W.nd hkeys ht
  refine hT at₂ (hV R₁ h01 hz₁) hσ₁ fun s₃ sm₃ r₃=>?_
  refine hB f A X _ σ₁ s₃ _ (at₂.up (.refl _) sm₃ r₃) hbody _ _ fun o σ' R' fl s' le' sm' hk' r' hfl=>?_
  refine Aq r' fun m' led' r'=>?_
  have smm:=(An ht).trans (sm₃.trans sm')
  refine Ao (SC hla.a le₁ r₁ hoff₁ hkeys le' r' smm) fun leR lat=>?_
  have again:forL (BU ts) (Ay C X b) K (xs.drop (i+1)) σ'→∃m,m < n+1∧LI c S d f A X wr R₀ Rs ss Stt xs.length (fun i=>forL (BU ts) (Ay C X b) K (xs.drop i)) m s':=fun hf=>
   ⟨n,zQ _,i+1,R'.EX R₁.ex,σ',(Nat.succ_add_eq_add_succ n i).symm.trans hn,h01.trans ⟨le'.ρ,le'.zs⟩,hRs.trans leR,hss.trans smm,lat,W.frame (i+1) h' s'.heap hst' (M4 r₁ le' r' (hfix R₁ h01)),hf⟩
  have leR:=hRs.trans leR
  have smm:=hss.trans smm
  have rx:=lat.a.r
  induction hfl using Ix.casesOn with
  |next=>exact again hk'
  |cont=>exact again hk'
  |brk=>exact hq .next σ' _ .next s' leR smm hk' rx .next
  |ret hl=>exact hq (.ret _) σ' _ (.ret _) s' leR smm hk' rx (.ret hl.Ib.EX)
end
end
section
section
variable {c:Cx}{C:Cfg}{S:Sx}{d:Nat}{f:Fx}{A:Around}{X:A7→St→Prop}{R R' R₀:Rec}{σ σ':St}{s s':Shared}{m:Str→Option Value}{led own:List (Addr×Obj)}{Ev:Value→Shared→Prop}{h h':Heap}{wr:List Addr}
theorem Kh{b I:Addr}(h:b∉[I]):b≠I:=fun e=>h (e▸ .head _)
theorem fj{I:Addr}:[I].Nodup:=.cons (fun _ h=>nomatch h) .nil
theorem WB{α β:Type}{xs:List α}{vs:List β}(h:vs.length=xs.length):vs.toArray[xs.length]? =none:=ji.trans (List.getElem?_eq_none (Jc h))
theorem Fb{target:PySem.Expr}{I:Addr}{o:Obj}{n:String}{v:Value}{Q:Unit→Shared→Prop}(ho:s.heap.get? I=some o)(hc:o.cls=.type n)
  (hn:["enumerate","zip","dict_itemiterator","dict_reverseitemiterator","odict_iterator","itertools.zip_longest","itertools.pairwise"].contains n=false) (h:Q () s):
  wpAny (model c.prog c.w) A (letOwnedTupleGo target (.ref I) v) Q Ev s:=by
 unfold letOwnedTupleGo
 have go:∀(a:Addr),v=.ref a→wpAny (model c.prog c.w) A (do
   let o ←load I
   match o.cls,o.data with
   | .type n,.fields vs=>
    if["enumerate","zip","dict_itemiterator","dict_reverseitemiterator","odict_iterator","itertools.zip_longest","itertools.pairwise"].contains n && vs[0]? ==some (rawInt a)then
     rule "for.unpacks-the-owned-tuple"
     updateField I 0 .none
   |_,_=>pure ()) Q Ev s:=by
  intro a _
  refine zn (wpAny_load ho ?_)
  obtain⟨oc,od,odt,os⟩:=o
  simp only at hc
  subst hc
  cases odt <;>first |exact zG h |(simp only[hn,Bool.false_and];exact zG h)
 cases target <;>first
  |exact zG h
  |(cases v <;>first |exact zG h |exact go _ rfl)
theorem M5(hh:A.handled=none){target:PySem.Expr}{I l:Addr}{xs:List Val}{vs:List Value}(hv:c.Vs R₀ xs vs)(hne:l≠I):
  EK c A target I [I,l] [I] xs (fun i h=>h.IsListIter I l i∧h.IsList l vs.toArray) R₀ where
 sub:=fun b hb=>by rw[zI.mp hb];exact .head _
 nd:=fj
 pres:=fun i h st b hb=>by
  rw[zI.mp hb]
  refine Ab st.1 fun o ho _=>?_
  rw[ho];rfl
 frame:=fun i h h' st hk=>by
  refine Ab st.1 fun o ho r=>Ab st.2 fun o2 ho2 r2=>?_
  exact⟨⟨o,hk I (.head _) o ho,r⟩,⟨o2,hk l (.tail _ (.head _)) o2 ho2,r2⟩⟩
 item:=fun i x s Q E hx st hq=>by
  refine Ao st fun it il=>?_
  refine Ab (hv.get hx) fun rv e1 e2=>?_
  refine wpAny_pyNext_list_item it il (x:=rv) (ji.trans e1) fun h' it' sb=>?_
  refine⟨rv,rfl,?_⟩
  refine BM it' fun o ho hc _=>?_
  refine Fb (s:={s with heap:=h'}) ho hc (by decide) ?_
  refine Ab il fun o2 ho2 r2=>?_
  refine hq rv h' s.toks none ⟨⟨o,ho,hc,by assumption⟩,⟨o2,(sb.2 l hne).trans ho2,r2⟩⟩ (fun b o hb e=>(sb.2 b (Kh hb)).trans e) (fun _ h=>nomatch h) fun R' le _=>V.fX le e2
 done:=fun s Q E st hq=>by
  refine Ao st fun it il=>?_
  refine wpAny_pyNext_list_end hh it il (WB hv.length) fun h' ex=>?_
  exact hq h' s.toks fun b o hb e=>ex b o (Kh hb) e
theorem Pk(hh:A.handled=none){target:PySem.Expr}{I l:Addr}{xs:List Val}{vs:List Value}(hv:c.Vs R₀ xs vs)(hne:l≠I):
  EK c A target I [I,l] [I] xs (fun i h=>h.IsTupleIter I l i∧h.IsTuple l vs.toArray) R₀ where
 sub:=fun b hb=>by rw[zI.mp hb];exact .head _
 nd:=fj
 pres:=fun i h st b hb=>by
  rw[zI.mp hb]
  refine Ab st.1 fun o ho _=>?_
  rw[ho];rfl
 frame:=fun i h h' st hk=>by
  refine Ab st.1 fun o ho r=>Ab st.2 fun o2 ho2 r2=>?_
  exact⟨⟨o,hk I (.head _) o ho,r⟩,⟨o2,hk l (.tail _ (.head _)) o2 ho2,r2⟩⟩
 item:=fun i x s Q E hx st hq=>by
  refine Ao st fun it il=>?_
  refine Ab (hv.get hx) fun rv e1 e2=>?_
  refine wpAny_pyNext_tuple_item it il (x:=rv) (ji.trans e1) fun h' it' sb=>?_
  refine⟨rv,rfl,?_⟩
  refine BM it' fun o ho hc _=>?_
  refine Fb (s:={s with heap:=h'}) ho hc (by decide) ?_
  refine Ab il fun o2 ho2 r2=>?_
  refine hq rv h' s.toks none ⟨⟨o,ho,hc,by assumption⟩,⟨o2,(sb.2 l hne).trans ho2,r2⟩⟩ (fun b o hb e=>(sb.2 b (Kh hb)).trans e) (fun _ h=>nomatch h) fun R' le _=>V.fX le e2
 done:=fun s Q E st hq=>by
  refine Ao st fun it il=>?_
  refine wpAny_pyNext_tuple_end hh it il (WB hv.length) fun h' ex=>?_
  exact hq h' s.toks fun b o hb e=>ex b o (Kh hb) e
theorem Oz{t:Txt}:∀{i:Nat} {x:Val},(chars t)[i]? =some x→∃ch,t[i]? =some ch∧x=.str [ch]:=by
 induction t with
 |nil=>exact fun h=>nomatch (Jq.symm.trans h:none=some _)
 |cons c y ih=>
  intro i x h
  induction i using zE with
  |zero=>exact⟨c,rfl,(ze h).symm⟩
  |succ i=>exact ih (i:=i) h
theorem OA(t:Txt):(chars t).length=t.length:=by
 induction t with
 |nil=>rfl
 |cons _ y ih=>exact zB (· +1) ih
theorem Pj(hh:A.handled=none){target:PySem.Expr}{I:Addr}{t:Txt}{tk:Tok}:
  EK c A target I [I] [I] (chars t) (fun i h=>h.IsStrIter I "str_ascii_iterator" ⟨t.toArray⟩ tk i) R₀ where
 sub:=fun b hb=>hb
 nd:=fj
 pres:=fun i h st b hb=>by
  rw[zI.mp hb]
  refine Ab st fun o ho _=>?_
  rw[ho];rfl
 frame:=fun i h h' st hk=>by
  refine Ab st fun o ho r=>?_
  exact⟨o,hk I (.head _) o ho,r⟩
 item:=fun i x s Q E hx st hq=>by
  refine Ab (Oz hx) fun ch h1 hq2=>?_;subst hq2
  refine wpAny_pyNext_ascii_item st (c:=ch) (ji.trans h1) fun h' it' sb=>?_
  refine⟨_,rfl,?_⟩
  refine BM it' fun o ho hc hd=>?_
  refine Fb (s:={s with heap:=h',toks:=s.toks+1}) ho hc (by decide) ?_
  exact hq _ h' (s.toks+1) none ⟨o,ho,hc,hd⟩ (fun b o hb e=>(sb.2 b (Kh hb)).trans e) (fun _ h=>nomatch h) fun R' le _=>.str [ch] _ (by show 1≤Az;rw[BO];decide)
 done:=fun s Q E st hq=>by
  refine wpAny_pyNext_ascii_end hh st (WB (OA t).symm) fun h' ex=>?_
  exact hq h' s.toks fun b o hb e=>ex b o (Kh hb) e
theorem MP{n:Nat}:∀{a i:Nat} {x:Val},(BG a n)[i]? =some x→i < n∧x=.int (Int.ofNat (a+i)):=by
 induction n with
 |zero=>exact fun h=>nomatch (Jq.symm.trans h:none=some _)
 |succ n ih=>
  intro a i x h
  induction i using zE with
  |zero=>exact⟨jl n,(ze h).symm⟩
  |succ i=>
   have q:=ih (a:=a+1) (i:=i) h
   exact⟨Nat.succ_lt_succ q.1,q.2.trans (zB (fun z=>Val.int (Int.ofNat z)) (j3 a 1 i))⟩
theorem CN(n:Nat):∀a:Nat,(BG a n).length=n:=by
 induction n with
 |zero=>exact fun _=>rfl
 |succ n ih=>exact fun a=>zB (· +1) (ih (a+1))
theorem L4(hh:A.handled=none){target:PySem.Expr}{I:Addr}{a n:Nat}:
  EK c A target I [I] [I] (BG a n) (fun i h=>i≤n∧IsRangeIter h I ((a+i:Nat):Int) ((n - i:Nat):Int) 1) R₀ where
 sub:=fun b hb=>hb
 nd:=fj
 pres:=fun i h st b hb=>by
  rw[zI.mp hb,st.2];rfl
 frame:=fun i h h' st hk=>⟨st.1,hk I (.head _) _ st.2⟩
 item:=fun i x s Q E hx st hq=>by
  refine Ao (MP hx) fun h1 hq1=>?_;subst hq1
  refine wpAny_pyNext_range_item st.2 (by lia) fun h' it' sb=>?_
  refine⟨_,rfl,?_⟩
  refine Fb (s:={s with heap:=h',toks:=s.toks+1}) it' rfl (by decide) ?_
  refine hq _ h' (s.toks+1) none ⟨h1,?_⟩ (fun b o hb e=>(sb.2 b (Kh hb)).trans e) (fun _ h=>nomatch h) fun R' le _=>.int _ _
  have e1:((a+(i+1):Nat):Int)=((a+i:Nat):Int)+1:=by lia
  have e2:((n - (i+1):Nat):Int)=((n - i:Nat):Int) - 1:=by lia
  rw[e1,e2];exact it'
 done:=fun s Q E st hq=>by
  rw[CN]at st
  refine wpAny_pyNext_range_end hh st.2 (by lia) fun h' ex=>?_
  exact hq h' s.toks fun b o hb e=>ex b o (Kh hb) e
end
end
section
noncomputable def Zo(c:Cx)(C:Cfg)(d:Nat)(S:Sx)(target:PySem.Expr)(it:It)(iter:PySem.Expr):Prop:=
 ∀(f:Fx) (A:Around) (X:A7→St→Prop) (R:Rec) (σ:St) (s:Shared) (K:List Val→St→Prop),At c S d f A X R σ s→eS C X it K σ→∀(Ev:Value→Shared→Prop) (Q:Value→Shared→Prop),
  (∀xs σ₁ R₁ s₁ I fp wr Stt,R.le R₁→Ar s s₁→K xs σ₁→LoopAt c S d f A X wr R₁ σ₁ s₁→EK c A target I fp wr xs Stt R₁→f.L∉wr→(∀b∈wr,f.h₀.get? b=none)→(∀R',R₁.HG R'→∀b∈fp,b∉wr→∃o,c.Z R' b o)→Stt 0 s₁.heap→Q (.ref I) s₁)→
  wpAny (model c.prog c.w) A (eval iter f.env) (fun x s₁=>wpAny (model c.prog c.w) A (pyIter x) Q Ev s₁) Ev s
section
variable {c:Cx}{C:Cfg}{S:Sx}{d:Nat}{f:Fx}{A:Around}{X:A7→St→Prop}{R R' R₀:Rec}{σ σ':St}{s s':Shared}{m:Str→Option Value}{led own:List (Addr×Obj)}{Ev:Value→Shared→Prop}{h h':Heap}{wr:List Addr}
theorem Cx.Z.HG{R R':Rec}(h:R.HG R'){a:Addr}{o:Obj}(z:c.Z R a o):c.Z R' a o:=z.imp id fun z=>h.zs _ z
theorem E5(a:At c S d f A X R σ s){h':Heap}(hk:∀b o,s.heap.get? b=some o→h'.get? b=some o){tk:Nat}(ht:s.toks≤tk)(hw:∀b∈wr,s.heap.objs.size≤b):
  LoopAt c S d f A X wr R σ {s with heap:=h',toks:=tk}∧f.L∉wr∧∀b∈wr,f.h₀.get? b=none:=by
 refine Aq a.r fun m led r=>?_
 have F':Fr f.h₀ f.L h' m:=by
  refine DE r.F.ns fun oL a1 a2 hL a3=>?_
  exact⟨⟨oL,a1,a2,hk _ _ hL,a3⟩,fun b o' e=>hk _ _ (r.F.keep b o' e),r.F.above⟩
 have N':News f.h₀ f.L h' led:=r.N.grown hk
 have r':=r.heap F' N'
 refine⟨⟨a.up (.refl R) (An ht) ⟨m,led,r'⟩,m,led,r',fun p hp hb=>?_⟩,fun hb=>?_,fun b hb=>ktu_new r.F (hw b hb)⟩
 ·exact absurd (jv (r.N p hp).1) (Nat.not_lt.mpr (hw _ hb))
 ·refine DE r.F.ns fun oL _ _ hL _=>?_
  exact absurd (jv hL) (Nat.not_lt.mpr (hw _ hb))
theorem Ih{h:Heap}(o:Obj):∀b o',h.get? b=some o'→(h.push o).get? b=some o':=fun _ _ e=>qf _ e
theorem of_is{v:Val}{σ:St}{K:List Val→St→Prop}(h:match v with | .seq _ xs=>K xs σ | .str t=>Br (AC 128 t) (K (chars t) σ) False |_=>False):(∃tup xs,v=.seq tup xs∧K xs σ)∨∃t,v=.str t∧AC 128 t=true∧K (chars t) σ:=by
 induction v using Val.casesOn with
 |seq tup xs=>exact .inl ⟨tup,xs,rfl,h⟩
 |str t=>exact .inr ⟨t,rfl,BQ h⟩
 |_=>exact h.elim
theorem ah{target:PySem.Expr}{e:E}{x:PySem.Expr}(ie:AE c C d S e x):Zo c C d S target (.of e) x:=by
 intro f A X R σ s K a h Ev Q hq
 refine ie.go (EP:=Ee) a h Ev _ (L9 a.nv) fun l σ₁ R₁ rv s₁ le sm hk r hl=>?_
 refine Ab (Am hk) fun v hv hk=>?_
 have hV:=Bu hv hl
 have a₁:=a.up le sm r
 have g:=fun o=>E5 (wr:=[s₁.heap.objs.size]) (h':=s₁.heap.push o) (tk:=s₁.toks) a₁ (Ih _) (zw _) (fun b hb=>by rw[zI.mp hb];exact zw _)
 refine(of_is (K:=K) hk).elim (fun h=>?_) fun h=>?_
 ·refine A6 h fun tup xs ev hk=>?_
  rw[ev]at hV
  refine AR hV.inv fun ad vs n er hz hlen hvs=>?_
  rw[er]
  refine Aq r fun m led r0=>?_
  refine BM hz fun oo hzo hcls hdat=>?_
  have hget:=r0.get hzo
  have hne:ad≠s₁.heap.objs.size:=Ja (jv hget)
  have fx:∀R',R₁.HG R'→∀b∈[s₁.heap.objs.size,ad],b∉[s₁.heap.objs.size]→∃o,c.Z R' b o:=fun R' hle b hb hnw=>(z5.mp hb).elim (fun e=>absurd e (Kh hnw)) fun hb=>⟨oo,zI.mp hb▸hzo.HG hle⟩
  induction tup using za with
  |false=>
   have hL:s₁.heap.IsList ad vs.toArray:=⟨oo,hget,hcls,n,hdat⟩
   refine wpAny_pyIter_list hL ?_
   refine Bi (g {cls:=.type "list_iterator",data:=.fields #[.ref ad,.int 0 0]}) fun l1 l2 l3=>?_
   exact hq xs σ₁ R₁ _ _ _ _ _ le (sm.trans AB) hk l1 (M5 a.G.hh hvs hne) l2 l3 fx ⟨⟨_,j5 _ rfl,rfl,rfl⟩,hL.push _⟩
  |true=>
   refine wpAny_pyIter_tuple ⟨oo,hget,hcls,n,hdat⟩ ?_
   refine Bi (g {cls:=.type "tuple_iterator",data:=.fields #[.ref ad,.int 0 0]}) fun l1 l2 l3=>?_
   exact hq xs σ₁ R₁ _ _ _ _ _ le (sm.trans AB) hk l1 (Pk a.G.hh hvs hne) l2 l3 fx ⟨⟨_,j5 _ rfl,rfl,rfl⟩,⟨oo,qf _ hget,hcls,n,hdat⟩⟩
 ·refine BM h fun t ev hasc hk=>?_
  rw[ev]at hV
  refine Ab hV.inv fun tk hlen er=>?_
  rw[er]
  have hall:(⟨t.toArray⟩:Str).cps.all (· < 128)=true:=by
   show t.toArray.all _=true
   rw[List.all_toArray,zR]
   exact fun ch hc=>js (HP 128 t hasc ch hc)
  refine wpAny_pyIter_ascii hall ?_
  refine Bi (g {cls:=.type "str_ascii_iterator",data:=.fields #[.str ⟨t.toArray⟩ tk,.int 0 0]}) fun l1 l2 l3=>?_
  exact hq (chars t) σ₁ R₁ _ _ _ _ _ le (sm.trans AB) hk l1 (Pj a.G.hh) l2 l3 (fun R' hle b hb hnw=>absurd hb hnw) ⟨_,j5 _ rfl,rfl,rfl⟩
theorem rangeSize_nat(i j:Nat):Builtin.Range.rangeSize (Int.ofNat i) (Int.ofNat j) 1=((j - i:Nat):Int):=by
 unfold Builtin.Range.rangeSize
 have e1:Int.ofNat i=(i:Int):=rfl
 have e2:Int.ofNat j=(j:Int):=rfl
 rw[e1,e2]
 simp only[show(1:Int) >0 by decide,if_true,Int.ediv_one]
 split <;>lia
theorem G7(a:At c S d f A X R σ s){target:PySem.Expr}{ad:Addr}{i j:Nat}{t u v:Tok}(hg:IsRange s.heap ad (Int.ofNat i) (Int.ofNat j) 1 t u v)(hj:j < Az)(hi:i < Az){P:Prop}(hP:P){Q:Value→Shared→Prop}
  (hq:∀R₁ s₁ I fp wr Stt,R.le R₁→Ar s s₁→P→LoopAt c S d f A X wr R₁ σ s₁→EK c A target I fp wr (BG i (j - i)) Stt R₁→f.L∉wr→(∀b∈wr,f.h₀.get? b=none)→(∀R',R₁.HG R'→∀b∈fp,b∉wr→∃o,c.Z R' b o)→Stt 0 s₁.heap→Q (.ref I) s₁):
  wpAny (model c.prog c.w) A (pyIter (.ref ad)) Q Ev s:=by
 have hsm:Builtin.Range.small (Int.ofNat i) (Int.ofNat j) 1=true:=by
  have hl:=BO
  have e1:Int.ofNat i=(i:Int):=rfl
  have e2:Int.ofNat j=(j:Int):=rfl
  rw[e1,e2]
  exact small_one (by lia) (by lia) (by lia) (by lia)
 refine wpAny_pyIter_range hg hsm ?_
 rw[rangeSize_nat]
 refine Bi (E5 (wr:=[s.heap.objs.size]) (h':=s.heap.push {cls:=.type "range_iterator",data:=.fields #[rawInt (Int.ofNat i),rawInt ((j - i:Nat):Int),rawInt 1]}) (tk:=s.toks) a (Ih _) (zw _) (fun b hb=>by rw[zI.mp hb];exact zw _)) fun l1 l2 l3=>?_
 refine hq R _ _ _ _ _ (.refl R) AB hP l1 (L4 a.G.hh) l2 l3 (fun R' hle b hb hnw=>absurd hb hnw) ⟨zH _,?_⟩
 exact j5 _ rfl
theorem Ys{v v':Val}{σ:St}{K:List Val→St→Prop}(h:match v,v' with | .int (.ofNat i),.int (.ofNat j)=>Br (Nat.blt j Az && Nat.blt i Az) (K (BG i (j - i)) σ) False |_,_=>False):
  ∃i j,v=.int (.ofNat i)∧v'=.int (.ofNat j)∧(Nat.blt j Az && Nat.blt i Az)=true∧K (BG i (j - i)) σ:=by
 induction v using Val.casesOn with
 |int i=>induction i using zW with
  |ofNat i=>induction v' using Val.casesOn with
   |int j=>induction j using zW with
    |ofNat j=>exact Ao (BQ h) fun a b=>⟨i,j,rfl,rfl,a,b⟩
    |negSucc _=>exact h.elim
   |_=>exact h.elim
  |negSucc _=>induction v' using Val.casesOn <;>exact h.elim
 |_=>exact h.elim
theorem OQ{target:PySem.Expr}{e1 e2:E}{x y:PySem.Expr}{p q:Pos}(i1:AE c C d S e1 x)(i2:AE c C d S e2 y)(b:Px c S "range" (.type "range"))(hx:Ag x=true)(hy:Ag y=true):Zo c C d S target (.range e1 e2) (.Call (.Name "range" q) [x,y] [] p):=by
 intro f A X R σ s K a h Ev Q hq
 rw[Au]
 refine zn (Fk a b ?_)
 refine JO (je (i1.go (EP:=Ee) a h Ev _ (L9 a.nv) fun l σ₁ R₁ rv s₁ le sm hk r hl=>?_) (Aa hx)) (Aa hx) (Aw (CB hy))
 refine Ab (Am hk) fun v hv hk=>?_
 have a₁:=a.up le sm r
 refine je (i2.go (EP:=Ee) a₁ hk Ev _ (L9 a.nv) fun l' σ₂ R₂ rv' s₂ le₂ sm₂ hk r₂ hl'=>jT ?_) (Aa hy)
 refine Ab (Am hk) fun v' hv' hk=>?_
 have a₂:=a₁.up le₂ sm₂ r₂
 have V1:=V.up le₂ (Bu hv hl)
 have V2:=Bu hv' hl'
 refine Pq (Ys (K:=K) hk) fun i j ev ev' hj hk=>?_
 rw[ev]at V1
 rw[ev']at V2
 have hj:=Ad hj
 refine zg V1.inv fun t e1=>zg V2.inv fun u e2=>?_
 rw[e1,e2]
 refine call_range_2 ?_
 refine Aq r₂ fun m led r0=>?_
 have a₃:At c S d f A X R₂ σ₂ {s₂ with heap:=s₂.heap.push {cls:=.type "range",data:=.fields #[.int (Int.ofNat i) t,.int (Int.ofNat j) u,.int 1 s₂.toks]},toks:=s₂.toks+1}:=
  a₂.up (.refl _) (An (zV _)) ⟨m,led,r0.push _⟩
 refine G7 (target:=target) a₃ (t:=t) (u:=u) (v:=s₂.toks) (j5 _ rfl) (DG hj.1) (DG hj.2) hk fun R₄ s₄ I fp wr Stt le4 sm4 hk4=>?_
 exact hq _ σ₂ R₄ s₄ I fp wr Stt ((le.trans le₂).trans le4) ((sm.trans sm₂).trans ((An (zV _)).trans sm4)) hk4
theorem Uw{v:Val}{σ:St}{K:List Val→St→Prop}(h:match v with | .int (.ofNat j)=>Br (Nat.blt j Az) (K (BG 0 j) σ) False |_=>False):∃j,v=.int (.ofNat j)∧Nat.blt j Az=true∧K (BG 0 j) σ:=by
 induction v using Val.casesOn with
 |int i=>induction i using zW with
  |ofNat j=>exact Ao (BQ h) fun a b=>⟨j,rfl,a,b⟩
  |negSucc _=>exact h.elim
 |_=>exact h.elim
theorem OP{target:PySem.Expr}{e:E}{x:PySem.Expr}{p q:Pos}(i:AE c C d S e x)(b:Px c S "range" (.type "range"))(hx:Ag x=true):Zo c C d S target (.range1 e) (.Call (.Name "range" q) [x] [] p):=by
 intro f A X R σ s K a h Ev Q hq
 rw[Au]
 refine zn (Fk a b ?_)
 refine JO (je (i.go (EP:=Ee) a h Ev _ (L9 a.nv) fun l σ₁ R₁ rv s₁ le sm hk r hl=>jT ?_) (Aa hx)) (Aa hx) rfl
 refine Ab (Am hk) fun v hv hk=>?_
 have a₁:=a.up le sm r
 have V1:=Bu hv hl
 refine BM (Uw (K:=K) hk) fun j ev hj hk=>?_
 rw[ev]at V1
 refine zg V1.inv fun t e1=>?_
 rw[e1]
 refine call_range_1 ?_
 refine Aq r fun m led r0=>?_
 have a₃:At c S d f A X R₁ σ₁ {s₁ with heap:=s₁.heap.push {cls:=.type "range",data:=.fields #[.int 0 s₁.toks,.int (Int.ofNat j) t,.int 1 (s₁.toks+1)]},toks:=s₁.toks+1+1}:=
  a₁.up (.refl _) (An (zA _ 2)) ⟨m,led,r0.push _⟩
 refine G7 (i:=0) (target:=target) a₃ (t:=s₁.toks) (u:=t) (v:=s₁.toks+1) (j5 _ rfl) (DG hj) (by decide) hk fun R₄ s₄ I fp wr Stt le4 sm4 hk4=>?_
 exact hq _ σ₁ R₄ s₄ I fp wr Stt (le.trans le4) (sm.trans ((An (zA _ 2)).trans sm4)) hk4
end
end
section
set_option maxHeartbeats 4000000
section
variable {c:Cx}{C:Cfg}{S:Sx}{d:Nat}{f:Fx}{A:Around}{X:A7→St→Prop}{R R' R₀:Rec}{σ σ':St}{s s':Shared}{m:Str→Option Value}{led own:List (Addr×Obj)}{Ev:Value→Shared→Prop}{h h':Heap}{wr:List Addr}
variable {e e':E}{x y:PySem.Expr}{p q q':Pos}{n:Str}{a b:Ss}{xs ys:List Stmt}
theorem MW{t:T}{v:LV}{σ:St}:stores [t] [v] σ=some (σ.LT t v):=by cases t <;>rfl
theorem SA{t:T}(ht:Nf c S t x):Ng c S [t] x:=by
 intro d f A X R σ σ₁ s xv v Ev Q a hv h hq
 have h':stores [t] [.v xv] σ=some σ₁:=h
 rw[MW]at h'
 rw[←ze h']at hq
 exact ht.1 a _ _ (.v hv) _ hq
theorem iz{t t':T}{ts:List T}{xv:Val}{σ₁:St}(h:BU (t::t'::ts) xv σ=some σ₁):∃xs,xv=.seq true xs∧stores (t::t'::ts) (TS xs) σ=some σ₁:=by
 induction xv using Val.casesOn with
 |seq tup xs=>induction tup using za with
  |true=>exact⟨xs,rfl,h⟩
  |false=>exact nz h
 |_=>exact nz h
theorem Pi{t t':T}{ts:List T}{xs:List PySem.Expr}{k:Nat}(ht:Hu c S (t::t'::ts) xs):Ng c S (t::t'::ts) (.Tuple xs k p):=by
 intro d f A X R σ σ₁ s xv v Ev Q a hv h hq
 refine Ab (iz h) fun vs hq1 h=>?_;subst hq1
 rw[arm_assign_Tuple]
 exact zn (JQ (L5 ht a hv h hq))
theorem S2{rx:Rx}{x y v:Val}(h:AG rx .add x y=some v)(hsc:I5 x=true):(∃i j,x=.int i∧y=.int j∧v=.int (i+j))∨∃t u,x=.str t∧y=.str u∧t.length+u.length≤Az∧v=.str (t++u):=by
 induction x using Val.casesOn with
 |int i=>induction y using Val.casesOn with
  |int j=>exact .inl ⟨i,j,rfl,rfl,(ze h).symm⟩
  |_=>exact nz h
 |str t=>induction y using Val.casesOn with
  |str u=>
   have h:cond (Nat.ble (t.length+u.length) Az) (some (Val.str (t++u))) none=some v:=h
   induction q:Nat.ble (t.length+u.length) Az using za with
   |false=>rw[q]at h;exact nz h
   |true=>rw[q]at h;exact .inr ⟨t,u,rfl,rfl,Df q,(ze h).symm⟩
  |_=>exact nz h
 |seq _ _=>exact ft hsc
 |_=>exact nz h
theorem US(t u:Txt):((⟨t.toArray⟩:Str)++⟨u.toArray⟩:Str)=⟨(t++u).toArray⟩:=zB Str.mk (List.append_toArray ..)
theorem Yg(r:Al c f R σ s.heap){rx:Rx}{x y v:Val}{a b:Value}(hx:c.V R x a)(hy:c.V R y b)(h:AG rx .add x y=some v)(hsc:I5 x=true):AL c f A R σ s (inplaceOp .Add a b) v:=by
 have Hx:VH c R s.heap x a:=.of hx
 have Hy:VH c R s.heap y b:=.of hy
 rcases S2 h hsc with⟨i,j,rfl,rfl,rfl⟩ |⟨t,u,rfl,rfl,q,rfl⟩
 ·refine zg Hx.I3 fun t hq1=>?_;subst hq1
  refine zg Hy.I3 fun u hq1=>?_;subst hq1
  exact AL.plain r fun Ev Q hq=>P.iadd_int (hq _ _ (.int _ _))
 ·refine Ab Hx.LY fun tk hq1 _=>?_;subst hq1
  refine Ab Hy.LY fun uk hq1 _=>?_;subst hq1
  refine AL.plain r fun Ev Q hq=>iadd_str (fun t' tk=>?_) (by rw[Bh,Bh,←A8];exact q)
  rw[US]
  exact hq _ tk (.str _ _ (by rw[zd];exact q))
theorem KD{t t':T}{v:LV}{σ:St}{P:St→Prop}(h:P (storeAll v [t,t'] σ)):P ((σ.LT t v).LT t' v):=by cases t <;>cases t' <;>exact h
theorem Ow{n:Str}{v:Value}{Q:Unit→Shared→Prop}(h:wpAny (model c.prog c.w) A (storeName f.env n v) Q Ev s):wpAny (model c.prog c.w) A (bindName f.env n v) Q Ev s:=by
 unfold bindName
 refine zn (jj (wpAny_point (zn (zZ h (fun _ s' hs=>wpAny_point hs) fun _ _ x=>x))))
theorem QI{f:Fx}(h:f.cs.kind=.function):interactive f.env=false:=by
 unfold interactive
 rw[h]
 rfl
theorem OJ{x:PySem.Expr}{env:Env}(h:Ew x=false):∀v,foldedSetIterable x env v=pure v:=by
 intro v
 cases x <;>first |rfl |exact Bool.noConfusion h
noncomputable def Ns(c:Cx)(f:Fx)(R:Rec)(s:Shared)(K:Out→St→Prop)(Q:Flow→Shared→Prop):Prop:=
 ∀o σ' R' fl s',R.le R'→Ar s s'→K o σ'→Al c f R' σ' s'.heap→Ix c R' o fl→Q fl s'
theorem Ns.up{K:Out→St→Prop}{Q:Flow→Shared→Prop}(h:Ns c f R s K Q)(le:R.le R')(sm:Ar s s'):Ns c f R' s' K Q:=
 fun o σ' R'' fl s'' le' sm'=>h o σ' R'' fl s'' (le.trans le') (sm.trans sm')
theorem Ix.Rl{fl:Flow}(h:Ix c R .next fl):fl=.next:=by cases h;rfl
theorem Ix.ZG{fl:Flow}(h:Ix c R .brk fl):fl=.brk:=by cases h;rfl
theorem Ix.Vo{fl:Flow}(h:Ix c R .cont fl):fl=.cont:=by cases h;rfl
theorem Ix.ec{l:LV}{fl:Flow}(h:Ix c R (.ret l) fl):∃rv,fl=.ret rv∧LR c R l rv:=by cases h with |ret h=>exact⟨_,rfl,h⟩
theorem Hi(it:DM c C d S e x)(ib:Pz c C d S a xs)(io:Pz c C d S b ys){K:Out→St→Prop}{Rs:Rec}{ss:Shared}{Q:Flow→Shared→Prop}(hq:Ns c f Rs ss K Q):
  ∀(n:Nat) (R:Rec) (σ:St) (s:Shared),Rs.le R→Ar ss s→At c S d f A X R σ s→C6 (Ec C X e) (Ay C X a) (Ay C X b) K n σ→WhlRest c.prog c.w A (fun _ _=>False) f.env x xs ys Q 0 s
 |0,_,_,_,_,_,_,h=>h.elim
 |n+1,R,σ,s,le,sm,at_,h=>by
  refine whl_turn (k:=0) PassesOwn.never (it.go (EP:=Ee) at_ h _ _ (L9 at_.nv) fun bb σ₁ R₁ s₁ le₁ sm₁ hk r₁=>?_)
  have a₁:=at_.up le₁ sm₁ r₁
  have h1:=le.trans le₁
  have h2:=sm.trans sm₁
  induction bb using za with
  |true=>
   refine WhlIf.yes rfl (ib f A X R₁ σ₁ s₁ _ a₁ hk _ _ fun oo σ₂ R₂ fl s₂ le₂ sm₂ hk₂ r₂ hfl=>?_)
   have le':=h1.trans le₂
   have sm':=h2.trans sm₂
   induction oo using Out.casesOn with
   |next=>rw[hfl.Rl];exact Hi it ib io hq n R₂ σ₂ s₂ le' sm' (a₁.up le₂ sm₂ r₂) hk₂
   |cont=>rw[hfl.Vo];exact Hi it ib io hq n R₂ σ₂ s₂ le' sm' (a₁.up le₂ sm₂ r₂) hk₂
   |brk=>rw[hfl.ZG];exact hq .next σ₂ R₂ .next s₂ le' sm' hk₂ r₂ .next
   |ret l=>refine Ab hfl.ec fun rv hq1 _=>?_;subst hq1;exact hq (.ret _) σ₂ R₂ (.ret _) s₂ le' sm' hk₂ r₂ hfl
  |false=>exact WhlIf.no rfl (io f A X R₁ σ₁ s₁ _ a₁ hk _ _ (hq.up h1 h2))
theorem FO:∀xs:List Val,(Cv xs).length=xs.length - 1
 |[]=>rfl
 |[_]=>rfl
 |_::y::r=>by
  show(Cv (y::r)).length+1=r.length+1
  rw[FO (y::r)];rfl
theorem Eh:∀{xs:List Val} {vs:List Value},c.Vs R xs vs→0 < xs.length→c.Vs R (Cv xs) (vs.eraseIdx (xs.length - 1))
 |[],_,_,h=>absurd h (Jm _)
 |[_],_,h,_=>by
  refine Ba (Bv.Cc h) fun v us hq2 _ h2=>?_;subst hq2
  exact h2
 |x::y::r,_,h,_=>by
  refine Ba (Bv.Cc h) fun v us hq2 h1 h2=>?_;subst hq2
  exact .cons h1 (Eh (xs:=y::r) h2 (jl _))
theorem Yz{k:Nat}(hn:S.names[k]? =some n)(hf:S.cs.names.lookup n≠some .free)(hc:C4 x=false)(i:AE c C d S e x):Ho c C d S (.asg k e) (.Assign [.Name n q] x p):=by
 intro f A X R σ s K a h Ev Q hq
 refine wpAny_Assign_Name (i.go (EP:=Ee) a h Ev _ (L9 a.nv) fun l σ₁ R₁ rv s₁ le sm hk r hl=>?_) (DY hc)
 refine Aq r ?_;clear r;intro m led r
 exact BS a.G a.NM r (by rw[a.names];exact hn) (by rw[a.cs];exact hf) hl fun s' sm' r'=>hq .next _ R₁ .next s' le (sm.trans sm') hk r' .next
theorem UQ(ok:EJ c){k:Nat}(hm:S.Ah=true)(hk:S.cs.names.lookup c.self=some .local)(hd:(c.self==("__debug__":Str))=false)(hn:c.attrs[k]? =some n)(hc:C4 x=false)(i:AE c C d S e x):
  Ho c C d S (.sasg k e) (.Assign [.Attribute (.Name c.self q') n q] x p):=by
 intro f A X R σ s K a h Ev Q hq
 refine plainObj_wpAny_Assign_Attribute (i.go (EP:=Ee) a h Ev _ (L9 a.nv) fun l σ₁ R₁ rv s₁ le sm hk' r hl=>?_) (DY hc)
 have a₁:=a.up le sm r
 refine Aq (NC a₁ hm) fun x dx hsd=>?_
 exact Fe a₁ hsd hk hd (Oa ok a₁ hsd hn hl fun s' sm' r'=>hq .next _ R₁ .next s' le (sm.trans sm') hk' r' .next)
theorem UK{t t':T}{y y':PySem.Expr}(h1:Nf c S t y)(h2:Nf c S t' y')(hs:∀env,swappedStores [y,y'] x env=pure none)(i:AE c C d S e x):Ho c C d S (.asgs [t,t'] e) (.Assign [y,y'] x p):=by
 intro f A X R σ s K a h Ev Q hq
 refine wpAny_Assign_two (i.go (EP:=Ee) a h Ev _ (L9 a.nv) fun l σ₁ R₁ rv s₁ le sm hk r hl=>?_) (by rw[h1.2,h2.2];rfl) (hs _)
 have a₁:=a.up le sm r
 refine h1.1 a₁ _ _ hl _ fun s₂ sm₂ r₂=>?_
 refine h2.1 (a₁.up (.refl _) sm₂ r₂) _ _ hl _ fun s₃ sm₃ r₃=>?_
 exact hq .next _ R₁ .next s₃ le ((sm.trans sm₂).trans sm₃) (KD hk) r₃ .next
theorem kN{v:Val}{P:List Val→Prop}(h:match v with | .seq _ xs=>P xs |_=>False):∃t xs,v=.seq t xs∧P xs:=by
 induction v using Val.casesOn with
 |seq t xs=>exact⟨t,xs,rfl,h⟩
 |_=>exact h.elim
theorem YF{ts:List T}{xs:List PySem.Expr}{k:Nat}(ht:Hu c S ts xs)(hc:C4 x=false)(hs:∀env,swappedStores [.Tuple xs k q] x env=pure none)(i:AE c C d S e x):Ho c C d S (.unp ts e) (.Assign [.Tuple xs k q] x p):=by
 intro f A X R σ s K a h Ev Q hq
 refine Assign_Tuple (i.go (EP:=Ee) a h Ev _ (L9 a.nv) fun l σ₁ R₁ rv s₁ le sm hk r hl=>?_) (KA hc) (hs _)
 refine Ab (Am hk) fun v hv hk=>?_
 refine A6 (kN hk) fun tup xs hq2 hk=>?_;subst hq2
 refine Ab (Ae hk) fun σ₂ hσ hk=>?_
 rw[arm_assign_Tuple]
 exact zn (JQ (L5 ht (a.up le sm r) (Bu hv hl) hσ fun s' sm' r'=>hq .next σ₂ R₁ .next s' le (sm.trans sm') hk r' .next))
theorem Vk{k:Nat}{v:LV}{rv:Value}(a:At c S d f A X R σ s)(hn:S.names[k]? =some n)(hf:S.cs.names.lookup n≠some .free)(hv:LR c R v rv){Q:Unit→Shared→Prop}(hq:∀s',Ar s s'→Al c f R (σ.DD k v) s'.heap→Q () s'):wpAny (model c.prog c.w) A (bindName f.env n rv) Q Ev s:=by
 refine Aq a.r fun m led r=>?_
 exact Ow (BS a.G a.NM r (by rw[a.names];exact hn) (by rw[a.cs];exact hf) hv hq)
theorem SE{i j:Nat}{xs:List Val}{σ₂:St}(h:stores [.loc j,.loc i] (TS xs.reverse) σ=some σ₂):∃u v,xs=[u,v]∧σ₂=(σ.DD j (.v v)).DD i (.v u):=by
 have hl:=ED h
 rw[Kb,List.length_reverse]at hl
 match xs,hl with
 |[u,v],_=>exact⟨u,v,rfl,(ze h).symm⟩
theorem YG{i j:Nat}{n n':Str}{xs:List PySem.Expr}{k:Nat}(hi:S.names[i]? =some n)(hj:S.names[j]? =some n')(hfi:S.cs.names.lookup n≠some .free)(hfj:S.cs.names.lookup n'≠some .free)(hc:C4 x=false)(hs:∀f:Fx,f.cs=S.cs→swappedStores [.Tuple xs k q] x f.env=pure (some [n,n']))(ie:AE c C d S e x):
  Ho c C d S (.unr [.loc i,.loc j] e) (.Assign [.Tuple xs k q] x p):=by
 intro f A X R σ s K a h Ev Q hq
 refine Assign_Tuple_swapped (ie.go (EP:=Ee) a h Ev _ (L9 a.nv) fun l σ₁ R₁ rv s₁ le sm hk r hl=>?_) (KA hc) (hs f a.cs)
 refine Ab (Am hk) fun v hv hk=>?_
 refine A6 (kN hk) fun tup vs hq2 hk=>?_;subst hq2
 refine Ab (Ae hk) fun σ₂ hσ hk=>?_
 refine A6 (SE hσ) fun u w hq2 hq3=>?_;subst hq2;subst hq3
 have a₁:=a.up le sm r
 refine items a₁ (.of (Bu hv hl)) rfl fun rvs s₂ sm₂ r₂ hvs=>?_
 obtain⟨ru,us,rfl,h1,hvs⟩:=Bv.Cc hvs
 obtain⟨rw_,us,rfl,h2,hvs⟩:=Bv.Cc hvs
 rw[Bv.Fu hvs]
 have a₂:=a₁.up (.refl _) sm₂ r₂
 refine zn (jj (Vk a₂ hj hfj (.v h2) fun s₃ sm₃ r₃=>?_))
 refine zn (jj (Vk (a₂.up (.refl _) sm₃ r₃) hi hfi (.v h1) fun s₄ sm₄ r₄=>?_))
 exact zG (hq .next _ R₁ .next s₄ le (((sm.trans sm₂).trans sm₃).trans sm₄) hk r₄ .next)
theorem YA{k:Nat}(hn:S.names[k]? =some n)(hf:S.cs.names.lookup n≠some .free)(i:AE c C d S e x):Ho c C d S (.aug k .add e) (.AugAssign (.Name n q) .Add x p):=by
 intro f A X R σ s K a h Ev Q hq
 refine Ab (Ae h) fun l hl h=>?_
 refine Ab (Am h) fun xv hx h=>?_
 refine Ao (BQ h) fun hsc h=>?_
 refine Aq a.r fun m led r=>?_
 have hn':f.names[k]? =some n:=by rw[a.names];exact hn
 refine wpAny_AugAssign_Name (GX a.G a.NM r hn' hl fun rv hlr=>?_)
 refine i.go (EP:=Ee) a h Ev _ (L9 a.nv) fun l' σ₁ R₁ rv' s₁ le sm hk r₁ hl'=>?_
 refine Ab (Am hk) fun yv hy hk=>?_
 refine Ab (Ae hk) fun v hv hk=>?_
 refine Yg r₁ (V.up le (Bu hx hlr)) (Bu hy hl') hv hsc Ev _ fun R₂ rv₂ s₂ le₂ sm₂ r₂ hv₂=>?_
 refine Aq r₂ ?_;clear r₂;intro m₂ led₂ r₂
 exact BS a.G a.NM r₂ hn' (by rw[a.cs];exact hf) (.v hv₂) fun s' sm' r'=>hq .next _ R₂ .next s' (le.trans le₂) ((sm.trans sm₂).trans sm') hk r' .next
theorem eC(hc:C4 x=false)(i:AE c C d S e x):Ho c C d S (.ex e) (.Expr x p):=by
 intro f A X R σ s K a h Ev Q hq
 refine wpAny_Expr_any (i.go (EP:=Ee) a h Ev _ (L9 a.nv) fun l σ₁ R₁ rv s₁ le sm hk r hl=>?_) (QI a.G.kind) (DY hc)
 refine Ab (Am hk) fun v hv hk=>?_
 exact hq .next σ₁ R₁ .next s₁ le sm (BQ hk).2 r .next
theorem eD(u:DM c C d S e x)(v:Pz c C d S a xs)(w:Pz c C d S b ys):Ho c C d S (.if_ e a b) (.If x xs ys p):=by
 intro f A X R σ s K at_ h Ev Q hq
 refine wpAny_If (u.go (EP:=Ee) at_ h Ev _ (L9 at_.nv) fun bb σ₁ R₁ s₁ le sm hk r=>?_)
 have go:=Ns.up hq le sm
 have a₁:=at_.up le sm r
 induction bb using za with
 |true=>exact v f A X R₁ σ₁ s₁ K a₁ hk Ev Q go
 |false=>exact w f A X R₁ σ₁ s₁ K a₁ hk Ev Q go
theorem Sl(u:DM c C d S e x)(v:Pz c C d S a xs)(w:Pz c C d S b ys):Ho c C d S (.while_ e a b) (.While x xs ys p):=by
 intro f A X R σ s K at_ h Ev Q hq
 refine zg h ?_;clear h;intro n h
 exact zZ (whl_start 0 (Hi u v w hq n R σ s (.refl R) (.refl s) at_ h)) (fun _ _ x=>x) fun _ _ x=>x.elim
theorem Sk{ts:List T}{it:It}{iter:PySem.Expr}(ht:Ng c S ts x)(hs:Ew iter=false)(u:Zo c C d S x it iter)(v:Pz c C d S a xs):Ho c C d S (.for_ ts it a) (.For x iter xs [] p):=by
 intro f A X R σ s K at_ h Ev Q hq
 refine zZ (wpAny_For (u f A X R σ s _ at_ h (fun _ _=>False) _ fun vs σ₁ R₁ s₁ I fp wr Stt le sm hk hla W hL hw hfix hst=>?_) (OJ hs)) (fun _ _ x=>x) fun _ _ x=>x.elim
 exact OK (Ev:=fun _ _=>False) W ht v hL hw hfix hq vs.length 0 R₁ σ₁ s₁ rfl (.refl _) le sm hla hst hk
theorem YE(i:AE c C d S e x):Ho c C d S (.ret e) (.Return (some x) p):=fun _ _ _ _ _ _ _ a h Ev _ hq=>
 wpAny_Return_some (i.go (EP:=Ee) a h Ev _ (L9 a.nv) fun l σ₁ R₁ rv s₁ le sm hk r hl=>hq (.ret l) σ₁ R₁ (.ret rv) s₁ le sm hk r (.ret hl))
theorem UP:Ho c C d S (.ret (.lit .none)) (.Return none p):=fun _ _ _ R σ s _ a h _ _ hq=>wpAny_Return_none (hq (.ret (.v .none)) σ R (.ret .none) s (.refl R) (.refl s) h a.r (.ret (.v .none)))
theorem YB:Ho c C d S .brk (.Break p):=fun _ _ _ R σ s _ a h _ _ hq=>wpAny_Break (hq .brk σ R .brk s (.refl R) (.refl s) h a.r .brk)
theorem UN:Ho c C d S .cont (.Continue p):=fun _ _ _ R σ s _ a h _ _ hq=>wpAny_Continue (hq .cont σ R .cont s (.refl R) (.refl s) h a.r .cont)
theorem UL{msg:Option PySem.Expr}(i:DM c C d S e x):Ho c C d S (.asrt e) (.Assert x msg p):=by
 intro f A X R σ s K a h Ev Q hq
 refine wpAny_Assert_holds (i.go (EP:=Ee) a h Ev _ (L9 a.nv) fun b σ₁ R₁ s₁ le sm hk r=>?_)
 induction b using za with
 |true=>exact⟨rfl,hq .next σ₁ R₁ .next s₁ le sm hk r .next⟩
 |false=>exact(a.nv _ _ hk).elim
theorem ZM{o:Option LV}{own:List (List Val)}{P:Nat→List Val→Prop}(h:match o with |some (.loc j)=>(match CW own j with |some (x::xs)=>P j (x::xs) |_=>False) |_=>False):∃j xs,o=some (.loc j)∧CW own j=some xs∧0 < xs.length∧P j xs:=by
 match o,h with
 |some (.loc j),h=>
  have h:match CW own j with |some (x::xs)=>P j (x::xs) |_=>False:=h
  induction q:CW own j using zh with
  |none=>rw[q]at h;exact h.elim
  |some l=>induction l using zi with
   |nil=>rw[q]at h;exact h.elim
   |cons x xs=>rw[q]at h;exact⟨j,x::xs,rfl,q,jl _,h⟩
theorem QU{n:Nat}(h:0 < n):seqIndex? (-1) n=some (n - 1):=by
 obtain⟨k,rfl⟩:∃k,n=k+1:=⟨n - 1,by lia⟩
 unfold seqIndex?
 rw[zX (show(-1:Int) < 0 by decide)]
 have e:(-1:Int)+((k+1:Nat):Int)=(k:Int):=by lia
 rw[e,zX (by simp;lia)]
 rfl
theorem UO{k j:Nat}{p q q' q'' q3:Pos}(hn:S.names[k]? =some n):Ho c C d S (.dell k) (.Delete [.Subscript (.Name n q) (.UnaryOp .USub (.Constant (.int 1) j q') q'') q3] p):=by
 intro f A X R σ s K a h Ev Q hq
 refine Aq a.r fun m led r=>?_
 refine Pq (ZM (P:=fun j xs=>K .next (σ.Ky j (Cv xs))) h) fun j xs hl ho hlen h=>?_
 refine wpAny_Delete (zn (wpAny_delete_Subscript (Ch a.G a.NM r (by rw[a.names];exact hn) hl fun rv hlr=>?_)))
 refine wpAny_UnaryOp (wpAny_Constant_int (P.neg_int ?_))
 refine Ab hlr.Q3 fun ad' hq1 hω=>?_;subst hq1
 refine AR (r.owns j xs ho) fun ad vs n o1 o2 o3 o4=>?_
 rw[hω]at o1;cases o1
 have hsz:vs.toArray.size=xs.length:=by rw[zY,o4.length]
 refine delItem_at (k:=xs.length - 1) (r.BN o2) (by decide) (by rw[hsz];exact QU hlen) (fun h' hs ho'=>?_) (by rw[hsz,←A8];exact o3)
 have hm:=r.N _ o2
 have r':=r.Ko hω (r.F.change hs hm.2.1 hm.2.2) (GZ r.N o2 hs ho') (Eh o4 hlen) (by rw[FO];exact zl (jJ _ _) o3)
 exact zG (hq .next _ R .next _ (.refl R) (An (zl (zV _) (zV _))) h ⟨m,_,r'⟩ .next)
theorem Yy:Pz c C d S .nil []:=fun _ _ _ R σ s _ a h _ _ hq=>wpAny_execs_nil (hq .next σ R .next s (.refl R) (.refl s) h a.r .next)
theorem UI{t:Ak.S}{x:Stmt}(i:Ho c C d S t x)(j:Pz c C d S a xs):Pz c C d S (.cons t a) (x::xs):=by
 intro f A X R σ s K at_ h Ev Q hq
 refine wpAny_execs_cons (i f A X R σ s _ at_ h Ev _ fun o σ₁ R₁ fl s₁ le sm hk r hfl=>?_)
 induction o using Out.casesOn with
 |next=>rw[hfl.Rl];exact j f A X R₁ σ₁ s₁ K (at_.up le sm r) hk Ev Q (Ns.up hq le sm)
 |brk=>rw[hfl.ZG];exact hq .brk σ₁ R₁ .brk s₁ le sm hk r .brk
 |cont=>rw[hfl.Vo];exact hq .cont σ₁ R₁ .cont s₁ le sm hk r .cont
 |ret l=>refine Ab hfl.ec fun rv hq1 hl=>?_;subst hq1;exact hq (.ret _) σ₁ R₁ (.ret _) s₁ le sm hk r (.ret hl)
end
end
section
section
variable {c:Cx}{f:Fx}{A:Around}{R:Rec}{σ:St}{s:Shared}{m:Str→Option Value}{led:List (Addr×Obj)}{Ev:Value→Shared→Prop}
theorem RB(r:Rel c f R σ s.heap m led){k:Nat}{ad:Addr}{xs ys:List Val}{rb:Value}(hω:R.ω[k]? =some ad)(hx:CW σ.own k=some xs)(hy:c.V R (.seq false ys) rb)(hl:xs.length+ys.length≤Az){Q:Value→Shared→Prop}
  (h:∀h',Al c f R (σ.Ky k (xs++ys)) h'→Q (.ref ad) {s with heap:=h'}):wpAny (model c.prog c.w) A (inplaceOp .Add (.ref ad) rb) Q Ev s:=by
 refine AR (r.owns k xs hx) fun ad' vs n o1 o2 o3 o4=>?_
 rw[hω]at o1;cases o1
 refine AR ((VH.of hy).seq r) fun b ws n' hq3 hg hl' hs=>?_;subst hq3
 refine BM hg fun o ho hc hd=>?_
 obtain⟨cls,d,data,sl⟩:=o
 simp only[kindS]at hc hd
 subst hc hd
 have ha:=r.BN o2
 have hL:=A8
 have h1:vs.toArray.size=xs.length:=by rw[zY,o4.length]
 have h2:ws.toArray.size=ys.length:=by rw[zY,hs.length]
 refine OM ⟨_,ha,rfl⟩ ⟨_,ho,rfl⟩ (call_meets F.slot_list_iadd ⟨_,ha,rfl⟩ F.entry_list_iadd (F.args_list_iadd_2 _ _)
  (HH ad vs.toArray n b ws.toArray n' d sl (by rw[h1,h2];simp[Builtin.List.listTooLong];intro _;omega) (by rw[h1];omega) (by rw[h1,h2];omega)) ⟨ha,ho,?_⟩)
 obtain⟨n2,e⟩:∃n2,(Obj.mapSeq fun x=>x++ws.toArray) (seqObj false vs n)=seqObj false (vs++ws) n2:=⟨_,by
  show Obj.mk _ _ (Data.seq (vs.toArray++ws.toArray) _) _=_
  rw[List.append_toArray]⟩
 have hm:=r.N _ o2
 have sb:Heap.SameBut ad s.heap (s.heap.update ad (Obj.mapSeq fun x=>x++ws.toArray)):=Heap.SameBut.update ..
 have hg2:(s.heap.update ad (Obj.mapSeq fun x=>x++ws.toArray)).get? ad=some (seqObj false (vs++ws) n2):=by
  rw[Heap.get?_update_self _ ha (by rw[e];rfl),e]
 exact h _ ⟨m,_,r.Ko hω (r.F.change sb hm.2.1 hm.2.2) (GZ r.N o2 sb hg2) (Bv.append o4 (show c.Vs R ys ws from hs)) (by rw[zd];exact hl)⟩
end
end
section
set_option maxHeartbeats 4000000
section
variable {c:Cx}{C:Cfg}{S:Sx}{d:Nat}{f:Fx}{A:Around}{X:A7→St→Prop}{R R' R₀:Rec}{σ σ':St}{s s':Shared}{m:Str→Option Value}{led own:List (Addr×Obj)}{Ev:Value→Shared→Prop}
variable {e:E}{x:PySem.Expr}{p q:Pos}{n:Str}
theorem MC{t u w:Ak.T}{y₁ y₂ y₃:PySem.Expr}(h1:Nf c S t y₁)(h2:Nf c S u y₂)(h3:Nf c S w y₃)(a:At c S d f A X R σ s){l₁ l₂ l₃:LV}{r₁ r₂ r₃:Value}(k1:LR c R l₁ r₁)(k2:LR c R l₂ r₂)(k3:LR c R l₃ r₃){Q:Unit→Shared→Prop}
  (hq:∀s',Ar s s'→Al c f R (((σ.LT t l₁).LT u l₂).LT w l₃) s'.heap→Q () s'):wpAny (model c.prog c.w) A (assignInOrder ([y₁,y₂,y₃].map fun x=>assign x f.env) [r₁,r₂,r₃]) Q Ev s:=by
 refine zn (jj (h1.1 a _ _ k1 _ fun s₁ sm₁ x₁=>?_))
 have a₁:=a.up (.refl R) sm₁ x₁
 refine zn (jj (h2.1 a₁ _ _ k2 _ fun s₂ sm₂ x₂=>?_))
 have a₂:=a₁.up (.refl R) sm₂ x₂
 refine zn (jj (h3.1 a₂ _ _ k3 _ fun s₃ sm₃ x₃=>?_))
 exact zG (hq s₃ ((sm₁.trans sm₂).trans sm₃) x₃)
theorem YD{i j l:Nat}{y₁ y₂ y₃:PySem.Expr}{k k' k'':Nat}{q p r r1 r2 r3:Pos}(h1:Nf c S (.loc i) y₁)(h2:Nf c S (.loc j) y₂)(h3:Nf c S (.loc l) y₃)
  (hs:∀f:Fx,f.cs=S.cs→swappedStores [.Tuple [y₁,y₂,y₃] k q] (.Tuple [.Constant (.str ⟨#[]⟩) k' r1,.List [] r2,.List [] r3] k'' r) f.env=pure none):
  Ho c C d S (.mkl i j l) (.Assign [.Tuple [y₁,y₂,y₃] k q] (.Tuple [.Constant (.str ⟨#[]⟩) k' r1,.List [] r2,.List [] r3] k'' r) p):=by
 intro f A X R σ s K a h Ev Q hq
 have L0:([]:List Val).length≤Az:=zH _
 have z0:([]:List Value).length≤sizeLine:=zH _
 refine Assign_Tuple (Tuple_ (je (J0 ?_) (Aa rfl))) (KA rfl) (hs f a.cs)
 refine Aq a.r fun m led r0=>?_
 refine je (List_ (jT (newList_K r0.F r0.N (fun l₁ h₁ F₁ N₁ hf₁=>?_) z0))) (Aa rfl)
 refine BM (r0.MH (xs:=[]) F₁ N₁ hf₁ .nil L0) fun R₁ le₁ x₁ o₁=>?_
 refine je (List_ (jT (newList_K x₁.F x₁.N (fun l₂ h₂ F₂ N₂ hf₂=>?_) z0))) (Aa rfl)
 refine BM (x₁.MH (xs:=[]) F₂ N₂ hf₂ .nil L0) fun R₂ le₂ x₂ o₂=>?_
 refine jT (newTuple_N x₂.F x₂.N (fun h₃ F₃ N₃=>?_) (show 3≤sizeLine by decide))
 refine Gw (x₂.frozen F₃ N₃ (fun p hp=>jv (x₂.N p hp).1)) fun R₃ le₃ x₃ z₃ _ _=>?_
 have le:=(le₁.trans le₂).trans le₃
 have smm:Ar s {s with heap:=h₃,toks:=s.toks+1}:=An (zV _)
 have a₃:=a.up (s':={s with heap:=h₃,toks:=s.toks+1}) le smm ⟨m,_,x₃⟩
 refine Bi (CF (c:=c) (S:=S) (ts:=[.loc i,.loc j,.loc l]) (xs:=[y₁,y₂,y₃]) (env:=f.env) ⟨h1,h2,h3,trivial⟩) fun g1 g2 g3=>?_
 rw[arm_assign_Tuple]
 refine zn (JQ ?_)
 unfold unpack
 rw[g1,g2,g3]
 refine zn (jj (unpackItemsN_ (items:= #[.str ⟨#[]⟩ s.toks,.ref l₁,.ref l₂]) x₃.F x₃.N (Dk (vs:=[.str ⟨#[]⟩ s.toks,.ref l₁,.ref l₂]) (n:=0) (DL.of (x₃.BN (.head _)))) a.G.hh rfl fun h₄ F₄ N₄=>?_))
 have x₄:=x₃.heap F₄ N₄
 have a₄:=a₃.up (s':={s with heap:=h₄,toks:=s.toks+1}) (.refl _) AB ⟨m,_,x₄⟩
 refine MC h1 h2 h3 a₄ (.v (.str [] s.toks L0)) (.loc (Iv (le₂.trans le₃) o₁)) (.loc (Iv le₃ o₂)) fun s₅ sm₅ x₅=>?_
 refine hq .next _ R₃ .next s₅ le ((smm.trans AB).trans sm₅) h ?_ .next
 have ho:G1 (Fa σ.own [])=G1 σ.own+1:=by rw[Cm,G3,zd,Cm];rfl
 rw[ho]at x₅
 exact x₅
theorem eg{v:Val}{P:List Val→Prop}(h:match v with | .seq false xs=>P xs |_=>False):∃xs,v=.seq false xs∧P xs:=by
 induction v using Val.casesOn with
 |seq t xs=>induction t using za with
  |true=>exact h.elim
  |false=>exact⟨xs,rfl,h⟩
 |_=>exact h.elim
theorem UM{k:Nat}(hn:S.names[k]? =some n)(hf:S.cs.names.lookup n≠some .free)(i:AE c C d S e x):Ho c C d S (.augl k e) (.AugAssign (.Name n q) .Add x p):=by
 intro f A X R σ s K a h Ev Q hq
 refine Ab (Ae h) fun l hl h=>?_
 refine Ab (TO h) fun j hq1 h=>?_;subst hq1
 refine Aq a.r fun m led r=>?_
 have hn':f.names[k]? =some n:=by rw[a.names];exact hn
 refine wpAny_AugAssign_Name (GX a.G a.NM r hn' hl fun rv hlr=>?_)
 refine Ab hlr.Q3 fun ad hq1 hω=>?_;subst hq1
 refine i.go (EP:=Ee) a h Ev _ (L9 a.nv) fun l' σ₁ R₁ rv' s₁ le sm hk r₁ hl'=>?_
 refine Ab (Am hk) fun yv hy hk=>?_
 refine Ab (eg hk) fun ys hq1 hk=>?_;subst hq1
 refine Ab (Ae hk) fun xs hxs hk=>?_
 refine Ao (BQ hk) fun hlen hk=>?_
 have hω₁:=Iv le hω
 refine Aq r₁ ?_;clear r₁;intro m₁ led₁ r₁
 refine RB r₁ hω₁ hxs (Bu hy hl') (Df hlen) fun h₂ r₂=>?_
 refine Aq r₂ ?_;clear r₂;intro m₂ led₂ r₂
 exact BS (s:={s₁ with heap:=h₂}) a.G a.NM r₂ hn' (by rw[a.cs];exact hf) (.loc hω₁) fun s' sm' r'=>hq .next _ R₁ .next s' le (sm.trans ((AB (s:=s₁)).trans sm')) hk r' .next
end
end
section
set_option maxHeartbeats 4000000
noncomputable def iJ:It→Nat
 | .of e=>sz e
 | .range a b=>sz a+sz b+2
 | .range1 a=>sz a+2
mutual
noncomputable def iK:Ak.S→Nat
 | .asg _ e=>sz e+2
 | .sasg _ e=>sz e+3
 | .asgs _ e=>sz e+5
 | .unp ts e=>2*ts.length+sz e+2
 | .unr ts e=>2*ts.length+sz e+2
 | .aug _ _ e=>sz e+2
 | .ex e=>sz e+1
 | .if_ t a b=>sz t+DJ a+DJ b+1
 | .while_ t a b=>sz t+DJ a+DJ b+1
 | .for_ ts it a=>2*ts.length+2+iJ it+DJ a
 | .ret e=>sz e+1
 | .brk=>1
 | .cont=>1
 | .asrt e=>sz e+1
 | .dell _=>5
 | .mkl _ _ _=>9
 | .augl _ e=>sz e+2
noncomputable def DJ:Ss→Nat
 | .nil=>0
 | .cons s ss=>iK s+DJ ss
end
section
variable (T:Tb)
noncomputable def Td:Ak.T→Nat→PySem.Expr
 | .loc i,k=>.Name (AH T.names i) (T.p k)
 | .sat i,k=>.Attribute (.Name T.self (T.p (k+1))) (AH T.attrs i) (T.p k)
noncomputable def H3:List Ak.T→Nat→List PySem.Expr
 |[],_=>[]
 |t::ts,k=>Td T t k::H3 ts (k+2)
noncomputable def gi:List Ak.T→Nat→PySem.Expr
 |[t],k=>Td T t k
 |ts,k=>.Tuple (H3 T ts k) 0 (T.p (k+2*ts.length))
noncomputable def WA:It→Nat→PySem.Expr
 | .of e,k=>Ca T e k
 | .range a b,k=>Ei T "range" [Ca T a (k+2),Ca T b (k+2+sz a)] k
 | .range1 a,k=>Ei T "range" [Ca T a (k+2)] k
mutual
noncomputable def ZN:Ak.S→Nat→Stmt
 | .asg i e,k=>.Assign [.Name (AH T.names i) (T.p (k+1))] (Ca T e (k+2)) (T.p k)
 | .sasg i e,k=>.Assign [.Attribute (.Name T.self (T.p (k+2))) (AH T.attrs i) (T.p (k+1))] (Ca T e (k+3)) (T.p k)
 | .asgs ts e,k=>.Assign (H3 T ts (k+1)) (Ca T e (k+5)) (T.p k)
 | .unp ts e,k=>.Assign [.Tuple (H3 T ts (k+2)) 0 (T.p (k+1))] (Ca T e (k+2+2*ts.length)) (T.p k)
 | .unr ts e,k=>.Assign [.Tuple (H3 T ts (k+2)) 0 (T.p (k+1))] (Ca T e (k+2+2*ts.length)) (T.p k)
 | .aug i _ e,k=>.AugAssign (.Name (AH T.names i) (T.p (k+1))) .Add (Ca T e (k+2)) (T.p k)
 | .ex e,k=>.Expr (Ca T e (k+1)) (T.p k)
 | .if_ t a b,k=>.If (Ca T t (k+1)) (C2 a (k+1+sz t)) (C2 b (k+1+sz t+DJ a)) (T.p k)
 | .while_ t a b,k=>.While (Ca T t (k+1)) (C2 a (k+1+sz t)) (C2 b (k+1+sz t+DJ a)) (T.p k)
 | .for_ ts it a,k=>.For (gi T ts (k+1)) (WA T it (k+2+2*ts.length)) (C2 a (k+2+2*ts.length+iJ it)) [] (T.p k)
 | .ret e,k=>.Return (MG e (Ca T e (k+1))) (T.p k)
 | .brk,k=>.Break (T.p k)
 | .cont,k=>.Continue (T.p k)
 | .asrt e,k=>.Assert (Ca T e (k+1)) none (T.p k)
 | .dell i,k=>.Delete [.Subscript (.Name (AH T.names i) (T.p (k+2))) (.UnaryOp .USub (.Constant (.int 1) 0 (T.p (k+4))) (T.p (k+3))) (T.p (k+1))] (T.p k)
 | .mkl i j l,k=>.Assign [.Tuple [.Name (AH T.names i) (T.p (k+2)),.Name (AH T.names j) (T.p (k+3)),.Name (AH T.names l) (T.p (k+4))] 0 (T.p (k+1))] (.Tuple [.Constant (.str ⟨#[]⟩) 0 (T.p (k+6)),.List [] (T.p (k+7)),.List [] (T.p (k+8))] 0 (T.p (k+5))) (T.p k)
 | .augl i e,k=>.AugAssign (.Name (AH T.names i) (T.p (k+1))) .Add (Ca T e (k+2)) (T.p k)
noncomputable def C2:Ss→Nat→List Stmt
 | .nil,_=>[]
 | .cons s ss,k=>ZN s k::C2 ss (k+iK s)
end
noncomputable def LF(e:E):Bool:= !Nat.beq e.ctorIdx 30
noncomputable def NJ(e:E):Bool:=Nat.beq e.ctorIdx 13
noncomputable def kJ:Ak.T→Bool
 | .loc i=>Nat.blt i T.names.length
 | .sat i=>T.Ah && Nat.blt i T.attrs.length
noncomputable def Rt:List Ak.T→Bool
 |[]=>true
 |t::ts=>kJ T t && Rt ts
noncomputable def Y7{α:Type}:List α→Option (α×α)
 |[a,b]=>some (a,b)
 |_=>none
noncomputable def RD :E→Option (E×E)
 | .seq true (.cons a (.cons b .nil))=>some (a,b)
 |_=>none
noncomputable def Hc :Ak.T→Option Nat
 | .loc i=>some i
 |_=>none
noncomputable def ee:List Ak.T→Bool
 | .sat _::_=>true
 |_=>false
noncomputable def XF(i j:Nat)(a b:E)(k:Nat):Bool:=
 (Nat.blt i T.names.length && Nat.blt j T.names.length) && (!(LD (AH T.names i) (AH T.names j)) && ((!BF T.cells (AH T.names i) && !BF T.cells (AH T.names j)) && (Nat.beq (T.p (k+2)).line (T.p (k+4)).line &&
  (!([Ca T a (k+7),Ca T b (k+7+sz a)].all (foldedForSure 8)) && !([Ca T a (k+7),Ca T b (k+7+sz a)].all (constantsAlone 8))))))
noncomputable def Ru(ts:List Ak.T)(e:E)(k:Nat):Bool:=match Y7 ts,RD e with
 |some (t,u),some (a,b)=>(match Hc t,Hc u with |some i,some j=>XF T i j a b k |_,_=>false)
 |_,_=>false
noncomputable def kH:It→Nat→Bool
 | .of e,_=>CV T e
 | .range a b,_=>BF T.gls "range" && (CV T a && CV T b)
 | .range1 a,_=>BF T.gls "range" && CV T a
mutual
noncomputable def kI:Ak.S→Nat→Bool
 | .asg i e,_=>(Nat.blt i T.names.length && LF e) && CV T e
 | .sasg i e,_=>(T.Ah && (Nat.blt i T.attrs.length && LF e)) && CV T e
 | .asgs ts e,_=>(Nat.beq ts.length 2 && Rt T ts) && CV T e
 | .unp ts e,_=>(Rt T ts && (LF e && (ee ts || !NJ e))) && CV T e
 | .unr ts e,k=>Ru T ts e k && CV T e
 | .aug i o e,_=>(Nat.blt i T.names.length && (match o with | .add=>true |_=>false)) && CV T e
 | .ex e,_=>LF e && CV T e
 | .if_ t a b,k=>CV T t && (Fy a (k+1+sz t) && Fy b (k+1+sz t+DJ a))
 | .while_ t a b,k=>CV T t && (Fy a (k+1+sz t) && Fy b (k+1+sz t+DJ a))
 | .for_ ts it a,k=>(Nat.blt 0 ts.length && (Rt T ts && kH T it ts.length)) && Fy a (k+2+2*ts.length+iJ it)
 | .ret e,_=>CV T e
 | .brk,_=>true
 | .cont,_=>true
 | .asrt e,_=>CV T e
 | .dell i,_=>Nat.blt i T.names.length
 | .mkl i j l,_=>(Nat.blt i T.names.length && (Nat.blt j T.names.length && Nat.blt l T.names.length)) && BF T.cells (AH T.names j)
 | .augl i e,_=>Nat.blt i T.names.length && CV T e
noncomputable def Fy:Ss→Nat→Bool
 | .nil,_=>true
 | .cons s ss,k=>kI s k && Fy ss (k+iK s)
end
end
end
section
set_option maxHeartbeats 4000000
structure Zr(c:Cx)(C:Cfg)(d:Nat)(S:Sx)(T:Tb):Prop where
 O:eZ c C d S T
 locl:∀n∈T.names,BF T.cells n=false→S.cs.names.lookup n=some .local
 celk:∀n∈T.cells,S.cs.names.lookup n=some .cell
 rng:("range":Str)∈T.gls→Px c S "range" (.type "range")
section
variable {c:Cx}{C:Cfg}{S:Sx}{d:Nat}{T:Tb}{e a b:E}{f:Fx}
theorem ET{T:Tb}{e:E}{k:Nat}(h:LF e=true):C4 (Ca T e k)=false:=by
 induction e using E.casesOn with
 |p1 o a=>cases o <;>rfl
 |p2 o a b=>cases o <;>rfl
 |p3 o a b c=>cases o <;>rfl
 |seq t es=>induction t using za <;>rfl
 |_=>rfl
theorem E9:∀{l:List Str} {k:Nat},k < l.length→AH l k∈l
 |[],_,h=>absurd h (jt _)
 |_::_,0,_=>.head _
 |_::r,k+1,h=>.tail _ (E9 (jB h))
theorem V5{xs:List PySem.Expr}{x:PySem.Expr}{k:Nat}{q:Pos}{env:Env}(h:Nat.beq x.ctorIdx 25=false):swappedStores [.Tuple xs k q] x env=pure none:=by
 cases x <;>first |rfl |exact ft h.symm
theorem UY{T:Tb}{t:Ak.T}{k:Nat}{u x:PySem.Expr}{env:Env}:swappedStores [Td T t k,u] x env=pure none:=by
 cases t <;>rfl
theorem UW{o:PySem.Expr}{n:Str}{p:Pos}{xs vs:List PySem.Expr}{k k':Nat}{q q':Pos}{env:Env}:swappedStores [.Tuple (.Attribute o n p::xs) k q] (.Tuple vs k' q') env=pure none:=by
 unfold swappedStores
 show(if _ then _ else _)=_
 split
 ·rfl
 ·show(if _ then _ else _)=_
  split
  ·rfl
  ·show(if((List.filterMap _ xs).length !=xs.length+1 || _)=true then _ else _)=_
   rw[zX]
   rw[JJ]
   refine .inl ?_
   rw[J5]
   exact Ja (jK (List.length_filterMap_le _ _))
theorem UX{n m u:Str}{p p' p'':Pos}{vs:List PySem.Expr}{k k':Nat}{q q':Pos}{env:Env}(hm:env.kindOf m≠some .local):swappedStores [.Tuple [.Name n p,.Name m p',.Name u p''] k q] (.Tuple vs k' q') env=pure none:=by
 unfold swappedStores
 show(if _ then _ else _)=_
 split
 ·rfl
 ·show(if _ then _ else _)=_
  split
  ·rfl
  ·show(if((List.filterMap _ [PySem.Expr.Name n p,.Name m p',.Name u p'']).length !=3 || _)=true then _ else _)=_
   rw[zX]
   rw[JJ]
   refine .inl ?_
   have e:∀{g:PySem.Expr→Option Str},g (.Name m p')=none→([PySem.Expr.Name n p,.Name m p',.Name u p''].filterMap g).length≤2:=fun{g} hg=>by
    rw[Jw]
    have h2:([PySem.Expr.Name m p',.Name u p''].filterMap g).length≤1:=by
     rw[Jw,hg]
     exact List.length_filterMap_le _ _
    split
    ·exact jx h2
    ·exact zN h2
   rw[J5]
   refine Ja (jK (e ?_))
   show(if(env.kindOf m==some .local && _)=true then _ else _)=_
   rw[jk.mpr hm];rfl
theorem YJ{n m:Str}{p p':Pos}{x y:PySem.Expr}{k k':Nat}{q q':Pos}{env:Env}(hk:env.scope.kind=.function)(hx:Ag x=true)(hy:Ag y=true)(hl:p.line=p'.line)(hn:env.kindOf n=some .local)(hm:env.kindOf m=some .local)(hne:n≠m)
  (hf:[x,y].all (foldedForSure 8)=false) (hc:[x,y].all (constantsAlone 8)=false):swappedStores [.Tuple [.Name n p,.Name m p'] k q] (.Tuple [x,y] k' q') env=pure (some [n,m]):=by
 have hb:env.blockKind=.function:=by unfold Env.blockKind;rw[hk];rfl
 unfold swappedStores
 show(if(env.blockKind !=.function)=true then _ else _)=_
 rw[hb,zP (by decide)]
 show(if[x,y].any _=true then _ else _)=_
 have hs:∀{g:PySem.Expr→Bool},(∀x,Ag x=true→g x=false)→[x,y].any g=false:=fun hg=>by rw[JG,JG,hg _ hx,hg _ hy];rfl
 rw[hs (fun x hx=>by cases x <;>first |rfl |exact ft hx),zP (by decide)]
 have e1:(env.kindOf n==some .local && p.line==p.line)=true:=by rw[hn];exact jF p.line
 have e2:(env.kindOf m==some .local && p'.line==p.line)=true:=by rw[hm,hl];exact jF p'.line
 have ed:([n,m]:List Str).eraseDups=[n,m]:=by
  have:(m==n)=false:=jk.mpr fun e=>hne e.symm
  simp[List.eraseDups_cons,this]
 have key:∀{g:PySem.Expr→Option Str},(∀i r,g (.Name i r)=if(env.kindOf i==some .local && r.line==p.line)=true then some i else none)→[PySem.Expr.Name n p,.Name m p'].filterMap g=[n,m]:=fun hg=>by
  rw[Jw,hg,zX e1,Jw,hg,zX e2];rfl
 show(if((List.filterMap _ [PySem.Expr.Name n p,.Name m p']).length !=2 || (List.filterMap _ [PySem.Expr.Name n p,.Name m p']).eraseDups.length !=(List.filterMap _ [PySem.Expr.Name n p,.Name m p']).length)=true then _ else _)=_
 rw[key (fun _ _=>rfl),ed,zP (show¬(([n,m].length !=2 || [n,m].length !=[n,m].length)=true)from fun h=>ft h)]
 show(if[x,y].all (foldedForSure 8)=true then _ else _)=_
 rw[hf,zP (by decide)]
 show(if[x,y].all (constantsAlone 8)=true then _ else _)=_
 rw[hc,zP (by decide)]
theorem UB{T:Tb}{e:E}{k:Nat}(h:NJ e=false):Nat.beq (Ca T e k).ctorIdx 25=false:=by
 induction e using E.casesOn with
 |seq _ _=>exact ft h.symm
 |p1 o a=>cases o <;>rfl
 |p2 o a b=>cases o <;>rfl
 |p3 o a b c=>cases o <;>rfl
 |_=>rfl
variable (W:Zr c C d S T)(ok:EJ c)(HC:A4 c C d c.mth)
noncomputable def PS(c:Cx)(C:Cfg)(d:Nat)(S:Sx)(T:Tb)(s:Ak.S):Prop:=∀k,kI T s k=true→Ho c C d S s (ZN T s k)
noncomputable def SS(c:Cx)(C:Cfg)(d:Nat)(S:Sx)(T:Tb)(ss:Ss):Prop:=∀k,Fy T ss k=true→Pz c C d S ss (C2 T ss k)
include W in
theorem Eo{i:Nat}(h:Nat.blt i T.names.length=true):S.cs.names.lookup (AH T.names i)≠some .free:=W.O.loc _ (E9 (DG h))
include W ok HC in
theorem OC{e:E}{k:Nat}(h:CV T e=true):AE c C d S e (Ca T e k):=(Vp W.O ok HC e k h).1
include W ok HC in
theorem iP{e:E}{k:Nat}(h:CV T e=true):DM c C d S e (Ca T e k):=(Vp W.O ok HC e k h).2
include W ok in
theorem YQ{t:Ak.T}{k:Nat}(h:kJ T t=true):Nf c S t (Td T t k):=by
 cases t with
 |loc i=>exact YR (Ct W.O h) (Eo W h)
 |sat i=>
  have h:=Ad h
  refine Ao (W.O.sk h.1) fun s1 s2=>?_
  show Nf c S _ (.Attribute (.Name T.self _) _ _)
  rw[←W.O.self]
  exact YS ok (W.O.Ah.trans h.1) s1 s2 (by rw[W.O.attrs];exact Dn (DG h.2))
include W ok in
theorem YT:∀{ts:List Ak.T} {k:Nat},Rt T ts=true→Hu c S ts (H3 T ts k)
 |[],_,_=>trivial
 |_::_,_,h=>⟨YQ W ok (Ad h).1,YT (Ad h).2⟩
include W ok HC in
theorem X1(i:Nat)(e:E):PS c C d S T (.asg i e):=fun k h=>
 have h:=Ad h
 have h1:=Ad h.1
 Yz (Ct W.O h1.1) (Eo W h1.1) (ET h1.2) (OC W ok HC h.2)
include W ok HC in
theorem Up(i:Nat)(e:E):PS c C d S T (.sasg i e):=by
 intro k h
 have h:=Ad h
 have h1:=Ad h.1
 have h2:=Ad h1.2
 refine Ao (W.O.sk h1.1) fun s1 s2=>?_
 show Ho c C d S _ (.Assign [.Attribute (.Name T.self _) _ _] _ _)
 rw[←W.O.self]
 exact UQ ok (W.O.Ah.trans h1.1) s1 s2 (by rw[W.O.attrs];exact Dn (DG h2.1)) (ET h2.2) (OC W ok HC h.2)
include W ok HC in
theorem Uk(ts:List Ak.T)(e:E):PS c C d S T (.asgs ts e):=by
 intro k h
 have h:=Ad h
 have h1:=Ad h.1
 match ts,h1 with
 |[t,u],h1=>
  have h2:=Ad h1.2
  exact UK (YQ W ok h2.1) (YQ W ok (Ad h2.2).1) (fun _=>UY) (OC W ok HC h.2)
theorem Uz{ts:List Ak.T}(h:ee ts=true):∃i r,ts=.sat i::r:=by
 induction ts using zi with
 |nil=>exact ft h
 |cons t r=>induction t using T.casesOn with
  |sat i=>exact⟨i,r,rfl⟩
  |loc _=>exact ft h
theorem Yw{e:E}(h:NJ e=true):∃t es,e=.seq t es:=by
 induction e using E.casesOn with
 |seq t es=>exact⟨t,es,rfl⟩
 |_=>exact ft h
include W ok HC in
theorem X7(ts:List Ak.T)(e:E):PS c C d S T (.unp ts e):=by
 intro k h
 have h:=Ad h
 have h1:=Ad h.1
 have h2:=Ad h1.2
 refine YF (YT W ok h1.1) (ET h2.1) (fun env=>?_) (OC W ok HC h.2)
 induction hq:NJ e using za with
 |false=>exact V5 (UB hq)
 |true=>
  have h3:=h2.2
  rw[hq]at h3
  rw[Bool.not_true,Bool.or_false]at h3
  refine Aq (Uz h3) fun i ts hq2=>?_;subst hq2
  refine Aq (Yw hq) fun t es hq2=>?_;subst hq2
  induction t using za with
  |true=>exact UW
  |false=>exact V5 rfl
theorem Y8{α:Type}{l:List α}{p:α×α}(h:Y7 l=some p):l=[p.1,p.2]:=by
 match l,h with
 |[a,b],h=>rw[←ze h]
theorem Ud{e:E}{p:E×E}(h:RD e=some p):e=.seq true (.cons p.1 (.cons p.2 .nil)):=by
 induction e using E.casesOn with
 |seq t es=>induction t using za with
  |false=>exact nz h
  |true=>match es,h with
   | .cons a (.cons b .nil),h=>rw[←ze h]
 |_=>exact nz h
theorem Ob{t:Ak.T}{i:Nat}(h:Hc t=some i):t=.loc i:=by
 induction t using T.casesOn with
 |loc j=>rw[←ze h]
 |sat _=>exact nz h
include W ok HC in
theorem X8(ts:List Ak.T)(e:E):PS c C d S T (.unr ts e):=by
 intro k h
 have h:=Ad h
 have h1:Ru T ts e k=true:=h.1
 unfold Ru at h1
 induction q1:Y7 ts using zh with
 |none=>rw[q1]at h1;exact ft h1
 |some p1=>induction q2:RD e using zh with
  |none=>rw[q1,q2]at h1;exact ft h1
  |some p2=>
   obtain⟨t,u⟩:=p1
   obtain⟨a,b⟩:=p2
   rw[q1,q2]at h1
   have h1:(match Hc t,Hc u with |some i,some j=>XF T i j a b k |_,_=>false)=true:=h1
   induction q3:Hc t using zh with
   |none=>rw[q3]at h1;exact ft h1
   |some i=>induction q4:Hc u using zh with
    |none=>rw[q3,q4]at h1;exact ft h1
    |some j=>
     rw[q3,q4]at h1
     have e1:=Y8 q1
     have e2:=Ud q2
     have e3:=Ob q3
     have e4:=Ob q4
     dsimp only at e1 e2
     subst e3;subst e4;subst e1;subst e2
     have h1:XF T i j a b k=true:=h1
     refine Ao (Ad h1) fun g1 g2=>?_
     refine Ao (Ad g2) fun g2 g3=>?_
     refine Ao (Ad g3) fun g3 g4=>?_
     refine Ao (Ad g4) fun g4 g5=>?_
     refine Ao (Ad g5) fun g5 g6=>?_
     have a1:=Ad g1
     have a3:=Ad g3
     have l1:=W.locl _ (E9 (DG a1.1)) (DH a3.1)
     have l2:=W.locl _ (E9 (DG a1.2)) (DH a3.2)
     refine YG (Ct W.O a1.1) (Ct W.O a1.2) (Eo W a1.1) (Eo W a1.2) rfl (fun f hf=>?_) (OC W ok HC h.2)
     refine YJ (by show f.cs.kind=_;rw[hf];exact W.O.kfun) (Ai ..) (Ai ..) (zD g4) (by show f.cs.names.lookup _=_;rw[hf];exact l1) (by show f.cs.names.lookup _=_;rw[hf];exact l2) (fun e=>?_) (DH g5) (DH g6)
     rw[e]at g2
     have:LD (AH T.names j) (AH T.names j)=true:=by unfold LD;rw[KH];exact js rfl
     rw[this]at g2;exact ft g2
include W ok HC in
theorem X2(i:Nat)(o:P2)(e:E):PS c C d S T (.aug i o e):=by
 intro k h
 have h:=Ad h
 have h1:=Ad h.1
 induction o using P2.casesOn with
 |add=>exact YA (Ct W.O h1.1) (Eo W h1.1) (OC W ok HC h.2)
 |_=>exact ft h1.2
include W ok HC in
theorem dR(e:E):PS c C d S T (.ex e):=fun _ h=>eC (ET (Ad h).1) (OC W ok HC (Ad h).2)
include W ok HC in
theorem dS(e:E)(a b:Ss)(i:SS c C d S T a)(j:SS c C d S T b):PS c C d S T (.if_ e a b):=fun _ h=>
 have h:=Ad h
 eD (iP W ok HC h.1) (i _ (Ad h.2).1) (j _ (Ad h.2).2)
include W ok HC in
theorem RM(e:E)(a b:Ss)(i:SS c C d S T a)(j:SS c C d S T b):PS c C d S T (.while_ e a b):=fun _ h=>
 have h:=Ad h
 Sl (iP W ok HC h.1) (i _ (Ad h.2).1) (j _ (Ad h.2).2)
include W ok HC in
theorem kh{it:It}{target:PySem.Expr}{n k:Nat}(ht:1 < n→∃xs j p,target=.Tuple xs j p)(h:kH T it n=true):Zo c C d S target it (WA T it k):=by
 induction it using It.casesOn with
 |of e=>exact ah (OC W ok HC h)
 |range a b=>
  refine Ao (Ad h) fun h1 h2=>?_
  refine Ao (Ad h2) fun h2 h3=>?_
  exact OQ (OC W ok HC h2) (OC W ok HC h3) (W.rng (AN h1)) (Ai ..) (Ai ..)
 |range1 a=>exact OP (OC W ok HC (Ad h).2) (W.rng (AN (Ad h).1)) (Ai ..)
theorem NK{it:It}{k:Nat}:Ew (WA T it k)=false:=by
 induction it using It.casesOn with
 |of e=>exact Kz ..
 |_=>rfl
include W ok HC in
theorem X4(ts:List Ak.T)(it:It)(a:Ss)(i:SS c C d S T a):PS c C d S T (.for_ ts it a):=by
 intro k h
 have h:=Ad h
 have h1:=Ad h.1
 have h2:=Ad h1.2
 match ts,h1,h2,h with
 |[],h1,_,_=>exact ft h1.1
 |[t],_,h2,h=>exact Sk (SA (YQ W ok (Ad h2.1).1)) NK (kh W ok HC (fun h=>absurd h (Jm 1)) h2.2) (i _ h.2)
 |t::u::ts,_,h2,h=>exact Sk (Pi (YT W ok h2.1)) NK (kh W ok HC (fun _=>⟨_,_,_,rfl⟩) h2.2) (i _ h.2)
include W ok HC in
theorem X6(e:E):PS c C d S T (.ret e):=by
 intro k h
 show Ho c C d S _ (.Return (MG e _) _)
 unfold MG
 induction hn:NH e using za with
 |false=>exact YE (OC W ok HC h)
 |true=>
  rw[VC hn];exact UP
theorem X3:PS c C d S T .brk:=fun _ _=>YB
theorem Un:PS c C d S T .cont:=fun _ _=>UN
include W ok HC in
theorem Ul(e:E):PS c C d S T (.asrt e):=fun _ h=>UL (iP W ok HC h)
include W in
theorem Uo(i:Nat):PS c C d S T (.dell i):=fun _ h=>UO (Ct W.O h)
include W ok in
theorem X5(i j l:Nat):PS c C d S T (.mkl i j l):=by
 intro k h
 have h:=Ad h
 have h1:=Ad h.1
 have h2:=Ad h1.2
 have hc:=W.celk _ (AN h.2)
 exact YD (YQ W ok (t:=.loc i) (k:=k+2) h1.1) (YQ W ok (t:=.loc j) (k:=k+3) h2.1) (YQ W ok (t:=.loc l) (k:=k+4) h2.2) fun f hf=>UX (by show f.cs.names.lookup _≠_;rw[hf,hc];exact nofun)
include W ok HC in
theorem Um(i:Nat)(e:E):PS c C d S T (.augl i e):=fun _ h=>UM (Ct W.O (Ad h).1) (Eo W (Ad h).1) (OC W ok HC (Ad h).2)
theorem Uq:SS c C d S T .nil:=fun _ _=>Yy
theorem RN(s:Ak.S)(ss:Ss)(i:PS c C d S T s)(j:SS c C d S T ss):SS c C d S T (.cons s ss):=fun _ h=>UI (i _ (Ad h).1) (j _ (Ad h).2)
include W ok HC in
theorem Sj(ss:Ss):SS c C d S T ss:=
 @Ss.rec (PS c C d S T) (SS c C d S T) (X1 W ok HC) (Up W ok HC) (Uk W ok HC) (X7 W ok HC) (X8 W ok HC) (X2 W ok HC) (dR W ok HC) (dS W ok HC) (RM W ok HC) (X4 W ok HC) (X6 W ok HC) X3 Un (Ul W ok HC) (Uo W) (X5 W ok) (Um W ok HC) Uq RN ss
end
end
section
set_option maxHeartbeats 4000000
structure KN(c:Cx):Prop where
 bind:∀pm c' ctv ca v,bindArgs (kla_fn "<lambda>" c.lam.qual c.lam.params c.lam.body c.lam.scope [(c.lam.nm,ca)] pm (.ref c') ctv) ⟨[v],[]⟩=pure [(c.lam.nk,v)]
 kk:c.lam.scope.names.lookup c.lam.nk=some .local
 kn:c.lam.scope.names.lookup c.lam.nm=some .free
 co:c.lam.scope.isCoroutine=false
 gen:c.lam.scope.isGenerator=false
 kind:c.lam.scope.kind=.function
 cell:∀x∈c.lam.scope.names,x.2≠ .cell
 dk:(c.lam.nk==("__debug__":Str))=false
 dn:(c.lam.nm==("__debug__":Str))=false
 dc:(c.lam.nm==("__classdict__":Str))=false
section
variable {c:Cx}{C:Cfg}{S:Sx}{d:Nat}{f:Fx}{A:Around}{X:A7→St→Prop}{R R':Rec}{σ σ':St}{s s':Shared}{m:Str→Option Value}{led:List (Addr×Obj)}{EP:HN}{K:LV→St→Prop}{Ev:Value→Shared→Prop}{Q:Value→Shared→Prop}
theorem QY{a:Addr}{vs:List Value}{n:Nat}{xs:List Val}{i:Int}{u:Tok}{v:Val}{value slice:PySem.Expr}(hg:DL s.heap a false vs n)(hs:c.Vs R xs vs)(hl:xs.length≤Az)(h:IC xs i=some v)(hq:∀rv,c.V R v rv→Q rv s):
  wpAny (model c.prog c.w) A (subscriptTail value slice (.ref a) (.int i u)) Q Ev s:=by
 refine BM (Mh h) fun j hj hxj ho=>?_
 refine Ao (GG h hl) fun b1 b2=>?_
 refine Ab (hs.get hxj) fun rv e1 e2=>?_
 have e1:vs.toArray[j]? =some rv:=ji.trans e1
 have hsz:vs.toArray.size=xs.length:=hs.length
 refine CC (AF hg).typeIs slot_list_getitem.lookup ?_
 refine ho.elim (fun h=>?_) fun h=>?_
 ·exact wpAny_getItem_list (AF hg) h.1 b2 (by rw[h.2];exact e1) (hq rv e2)
 ·exact wpAny_getItem_list_neg (AF hg) h.1 (by rw[hsz];exact Int.neg_le_of_neg_le (by have:=h.2;lia)) b1 (by rw[hsz,h.2];exact e1) (hq rv e2)
theorem lw{l:LV}{P:List Val→Prop}(h:match l with | .fn xs=>P xs |_=>False):∃xs,l=.fn xs∧P xs:=by
 induction l using LV.casesOn with
 |fn xs=>exact⟨xs,rfl,h⟩
 |_=>exact h.elim
theorem LR.lu{xs:List Val}{rv:Value}(h:LR c R (.fn xs) rv):∃q,rv=.ref q∧Nc c R xs q:=by cases h with |fn z=>exact⟨_,rfl,z⟩
theorem Nc.isFn(r:Rel c f R σ s.heap m led){xs:List Val}{q:Addr}(z:Nc c R xs q):PySem.W.FnAt q s.heap:=by
 obtain⟨pm,c',ctv,oc,vs,t,ca,oca,la,ws,n,h1,_⟩:=z
 exact⟨_,_,_,_,r.BN (r.zs _ h1)⟩
theorem iL{xs:List Val}{v w:Val}(h:Sq xs v=some w):∃i,v=.int i∧IC xs i=some w:=by
 induction v using Val.casesOn with
 |int i=>exact⟨i,rfl,h⟩
 |_=>exact nz h
theorem Tp(L:KN c)(a:At c S d f A X R σ s){xs:List Val}{q:Addr}(z:Nc c R xs q){v w:Val}{rv:Value}(hv:c.V R v rv)(hw:Sq xs v=some w)(hk:K (.v w) σ)(hq:Nx c f R s K Q):wpAny (model c.prog c.w) A (call (.ref q) [rv]) Q Ev s:=by
 refine Ab (iL hw) fun i e hat=>?_
 subst e
 refine zg hv.Xe fun tk e=>?_
 subst e
 refine Aq a.r fun m led r=>?_
 obtain⟨pm,c',ctv,oc,vs,t,ca,oca,la,ws,n,h1,h2,h3,h4,h5,h6,h7,h8,h9⟩:=z
 refine DE a.G.fr fun outer A₀ base hfr B=>?_
 refine EG a.G.T fun p loose mean mg mb T=>?_
 have hz1:=r.zs _ h1
 refine JN (kla_code (K:=c.K) (cl:=[(c.lam.nm,ca)]) (name:="<lambda>") (qual:=c.lam.qual) (params:=c.lam.params) (body:=c.lam.body) (scope:=c.lam.scope) (binds:=[(c.lam.nk,.int i tk)]) B r.F a.G.X r.N T hfr rfl a.G.kind hz1 (codeRec_news r.N (r.zs _ h2) h3 h4) (by have:=a.G.depth;lia) (L.bind _ _ _ _ _) (fun y hy=>by rw[zI.mp hy];exact L.kk) (fun g L' h₁ FG F' N' B' X' T'=>?_) L.co L.gen L.kind L.cell)
 have hk':∀b o,f.h₀.get? b=some o→h₁.get? b=some o:=fun b o e=>F'.keep b o (FG.keep b o e)
 refine Subscript_ (nameX_F (cl:=[(c.lam.nm,ca)]) (c:=ca) (o:=oca) N' (by rw[jg,jF]) (r.zs _ h5) h6 ?_ L.kind L.kn L.dn L.dc)
 refine nameX_L F' (v:=.int i tk) (by show List.lookup c.lam.nk [(c.lam.nk,Value.int i tk)]=_;rw[jg,jF]) ?_ L.kind L.kk L.dk
 have hget:∀{b o},c.Z R b o→h₁.get? b=some o:=fun zb=>zb.elim (fun e=>hk' _ _ (r.B _ _ e)) fun e=>N'.get (r.zs _ e)
 have hg:DL h₁ la false ws n:=let⟨o,x,y⟩:=h7;⟨o,hget x,y⟩
 refine QY (R:=R) (xs:=xs) hg h8 h9 hat fun rv hrv=>?_
 refine leaveK_ F' N' fun F'' N''=>?_
 exact hq (.v w) σ R rv _ (.refl R) (An (h':=h₁) (zV _)) hk ⟨m,led,r.heap F'' N''⟩ (.v hrv)
theorem Qk(L:KN c){k:Nat}{n:Str}{q p:Pos}{x:PySem.Expr}{e:E}(hn:S.names[k]? =some n)(hp:Ag x=true)(i:AE c C d S e x):AE c C d S (.icall k e) (.Call (.Name n q) [x] [] p):=by
 intro f A X EP R σ s K a h Ev Q xo hq
 refine Ab (Ae h) fun l hl h=>?_
 refine Ab (lw h) fun xs hq1 h=>?_;subst hq1
 refine Aq a.r fun m led r=>?_
 rw[Au]
 refine zn (Ch a.G a.NM r (by rw[a.names];exact hn) hl fun rv hlr=>?_)
 refine Ab hlr.lu fun qa e z=>?_
 subst e
 refine callWith_F (z.isFn r) (je (i.go a h Ev _ xo fun l σ₁ R₁ rv₁ s₁ le sm hk r₁ hl₁=>jT ?_) (Aa hp)) (Aa hp) (Aw rfl)
 have a₁:=a.up le sm r₁
 have z₁:=z.mono le.zs le.ρ
 refine Ab (Am hk) fun v hv hk=>?_
 refine Ab (Ae hk) fun w hw hk=>?_
 refine Aq r₁ fun m₁ led₁ r₁'=>?_
 exact⟨z₁.isFn r₁',Tp L a₁ z₁ (Bu hv hl₁) hw hk (Nx.up hq le sm)⟩
end
end
section
set_option maxHeartbeats 4000000
theorem VR.LB{PC:Addr}{Z Z':Addr→Obj→Prop}{ρ:List Addr}(hz:∀a o,(∀v,o.data≠ .cell v)→Z a o→Z' a o){x:Val}{v:Value}(h:VR PC Z ρ x v):VR PC Z' ρ x v:=
 VR.rec (motive_1:=fun x v _=>VR PC Z' ρ x v) (motive_2:=fun xs vs _=>Bv PC Z' ρ xs vs) .none (fun b=>.bool b) (fun i t=>.int i t) (fun x t h=>.str x t h)
  (fun h hl _ ih=>.seq (let⟨o,x,y,z⟩:=h;⟨o,hz _ _ (fun v e=>by rw[z]at e;cases e) x,y,z⟩) hl ih)
  (fun h hd=>.obj (hz _ _ (fun _ e=>by cases e) h) hd) (fun h ht=>.mt (hz _ _ (fun _ e=>by cases e) h) (hz _ _ (fun _ e=>by cases e) ht)) .nil (fun _ _ a b=>.cons a b) h
theorem Bv.LB{PC:Addr}{Z Z':Addr→Obj→Prop}{ρ:List Addr}{xs:List Val}(hz:∀a o,(∀v,o.data≠ .cell v)→Z a o→Z' a o):∀{vs:List Value},Bv PC Z ρ xs vs→Bv PC Z' ρ xs vs:=by
 induction xs with
 |nil=>intro vs h;rw[Bv.Fu h];exact .nil
 |cons x xs ih=>intro vs h;refine Ba (Bv.Cc h) fun v ws e a b=>?_;rw[e];exact .cons (a.LB hz) (ih b)
noncomputable def Rec.fixC(R:Rec)(p:Addr×Obj):Rec:=⟨R.ρ,R.ω,p::R.zs,R.ex.filter (fun q=> !(q.1==p.1)),R.sd⟩
noncomputable def Rec.Gk(R:Rec)(ca:Addr)(ex:List (Addr×Obj)):Rec:=⟨R.ρ,R.ω,R.zs.filter (fun q=> !(q.1==ca)),ex,R.sd⟩
noncomputable def Fx.kl(f:Fx):Fx:=⟨f.cn,f.cs,f.L,f.fa,f.cd,f.cl,f.h₀,[]⟩
theorem IV{p:Addr×Obj}{ca:Addr}{l:List (Addr×Obj)}:p∈l.filter (fun q=> !(q.1==ca))↔p∈l∧p.1≠ca:=by
 rw[jf,JC,jk]
section
variable {c:Cx}{f:Fx}{R R':Rec}{σ σ':St}{h:Heap}{m:Str→Option Value}{led:List (Addr×Obj)}
theorem LR.gj{p:Addr×Obj}{l:LV}{rv:Value}(y:LR c R l rv):LR c (R.fixC p) l rv:=by
 have hz:∀q∈R.zs,q∈(R.fixC p).zs:=fun q hq=>zC _ hq
 have hr:∃t,(R.fixC p).ρ=R.ρ++t:=⟨[],(zL _).symm⟩
 induction y using LR.casesOn with
 |v y=>exact .v (V.fX ⟨hr,hz⟩ y)
 |loc e=>exact .loc e
 |app e q=>exact .app e (q.imp id fun z=>hz _ z)
 |fn z=>exact .fn (z.mono hz hr)
theorem Rel.fix(r:Rel c f R σ h m led){ca:Addr}{o:Obj}(hx:(ca,o)∈R.ex):Rel c f (R.fixC (ca,o)) σ h m led:=by
 have up:∀v rv,LR c R v rv→LR c (R.fixC (ca,o)) v rv:=fun _ _ y=>y.gj
 refine{F:=r.F,N:=r.N,nd:=r.nd,slots:=fun k n v hk hv=>Cz (fun _ _ _ x=>x) (fun _ y=>up _ _ y) (r.slots k n v hk hv),clo:=r.clo,self:=fun x dx hs=>?_,self0:=r.self0,ml:=r.ml,hlen:=r.hlen,cells:=fun j fs hj=>?_,oln:=r.oln,owns:=fun k xs hk=>?_,zs:=fun p hp=>?_,ex:=fun p hp=>r.ex p (IV.mp hp).1,D1:=r.D1,D2:=r.D2,D3:=fun a ha p hp=>?_,D4:=fun p hp q hq=>?_,B:=r.B}
 ·obtain⟨a1,a2,es,n,a3,a4⟩:=r.self x dx hs
  exact⟨a1,a2.imp id fun z=>zC _ z,es,n,a3,Aj.same up a4⟩
 ·refine CS (r.cells j fs hj) fun a es n a1 a2 a3=>?_
  exact⟨a,es,n,a1,a2,Aj.same up a3⟩
 ·refine AR (r.owns k xs hk) fun a vs n a1 a2 a3 a4=>?_
  exact⟨a,vs,n,a1,a2,a3,Bv.mono (fun a o z=>z.imp id fun z=>zC _ z) ⟨[],(zL _).symm⟩ a4⟩
 ·rcases z5.mp hp with e |hp
  ·rw[e];exact r.ex _ hx
  ·exact r.zs p hp
 ·rcases zF.mp hp with hp |hp
  ·rcases z5.mp hp with e |hp
   ·rw[e];exact r.D3 a ha _ (zj _ hx)
   ·exact r.D3 a ha p (zr _ hp)
  ·exact r.D3 a ha p (zj _ (IV.mp hp).1)
 ·have hq:=IV.mp hq
  rcases z5.mp hp with e |hp
  ·rw[e];exact fun e'=>hq.2 e'.symm
  ·exact r.D4 p hp q hq.1
theorem Lx{led:List (Addr×Obj)}(nd:(led.map (·.1)).Nodup){a:Addr}{o o':Obj}(h1:(a,o)∈led)(h2:(a,o')∈led):o=o':=by
 induction led with
 |nil=>cases h1
 |cons p r ih=>
  have nd:=jU.mp nd
  rcases z5.mp h1 with e1 |h1 <;>rcases z5.mp h2 with e2 |h2
  ·exact zB Prod.snd (e1.trans e2.symm)
  ·exact absurd (zK.mpr ⟨(a,o'),h2,(zB Prod.fst e1:a=p.1)⟩) nd.1
  ·exact absurd (zK.mpr ⟨(a,o),h1,(zB Prod.fst e2:a=p.1)⟩) nd.1
  ·exact ih nd.2 h1 h2
theorem fW(nd:(led.map (·.1)).Nodup)(hz:∀p∈R.zs,p∈led){ca:Addr}{o:Obj}(hc:(ca,o)∈R.zs)(hd:∃v,o.data=.cell v){ex:List (Addr×Obj)}:∀a o',(∀v,o'.data≠ .cell v)→c.Z R a o'→c.Z (R.Gk ca ex) a o':=fun a o' hn z=>z.imp id fun z=>IV.mpr ⟨z,fun e=>by
 refine zg hd fun v hv=>hn v ?_
 subst e
 rw[Lx nd (hz _ z) (hz _ hc)];exact hv⟩
theorem RelL.Gk(r:RelL c f R σ m led){ca:Addr}{o:Obj}(hc:(ca,o)∈R.zs)(hd:∃v,o.data=.cell v){ex:List (Addr×Obj)}(hex:∀p∈ex,p.1=ca→p=(ca,o))(hex':∀p∈ex,p.1≠ca→p∈R.ex){fs':List (Option Val)}(hf:fz σ.own σ.self=some fs'):
  RelL c f.kl (R.Gk ca ex) σ m led:=by
 have up:∀{x v},c.V R x v→c.V (R.Gk ca ex) x v:=fun y=>VR.LB (fW r.nd r.zs hc hd) y
 have ups:∀{x v},c.Vs R x v→c.Vs (R.Gk ca ex) x v:=fun y=>Bv.LB (fW r.nd r.zs hc hd) y
 refine{nd:=r.nd,slots:=fun k n v hk _=>(by cases hk),clo:=r.clo,self:=fun x dx hs=>?_,self0:=r.self0,ml:=r.ml,hlen:=r.hlen,cells:=fun j fs hj=>?_,oln:=r.oln,owns:=fun k xs hk=>?_,zs:=fun p hp=>r.zs p (IV.mp hp).1,ex:=fun p hp=>?_,D1:=r.D1,D2:=r.D2,D3:=fun a ha p hp=>?_,D4:=fun p hp q hq=>?_,B:=r.B}
 ·obtain⟨a1,a2,es,n,a3,a4⟩:=r.self x dx hs
  refine⟨a1,fW r.nd r.zs hc hd _ _ (fun _ e=>by cases e) a2,es,n,a3,?_⟩
  refine M9 a4 fun b1 b2 b3 b4=>⟨fun k n hk=>?_,b2,b3,b4⟩
  have h1:=b1 k n hk
  have h2:=(Mx hf).2 k
  revert h1 h2
  induction Ax σ.self k using zh with
  |none=>exact fun h1 _=>h1
  |some v=>
   intro h1 h2
   refine Ab h1 fun rv h1 h1'=>Ab h2 fun x h2 _=>⟨rv,h1,?_⟩
   induction h1' using LR.casesOn with
   |v y=>exact .v (up y)
   |loc e=>exact .loc e
   |app _ _=>cases h2
   |fn _=>cases h2
 ·refine CS (r.cells j fs hj) fun a es n a1 a2 a3=>?_
  exact⟨a,es,n,a1,a2,Aj.BD (fun _ _ y=>up y) a3⟩
 ·refine AR (r.owns k xs hk) fun a vs n a1 a2 a3 a4=>?_
  exact⟨a,vs,n,a1,a2,a3,ups a4⟩
 ·by_cases e:p.1=ca
  ·rw[hex p hp e];exact r.zs _ hc
  ·exact r.ex p (hex' p hp e)
 ·rcases zF.mp hp with hp |hp
  ·exact r.D3 a ha p (zr _ (IV.mp hp).1)
  ·by_cases e:p.1=ca
   ·rw[hex p hp e];exact r.D3 a ha _ (zr _ hc)
   ·exact r.D3 a ha p (zj _ (hex' p hp e))
 ·have hp:=IV.mp hp
  by_cases e:q.1=ca
  ·rw[e];exact hp.2
  ·exact r.D4 p hp.1 q (hex' q hq e)
theorem TP(r:RelL c f R σ m led){ca:Addr}{o:Obj}(hc:(ca,o)∈R.zs)(hd:∃v,o.data=.cell v){ex:List (Addr×Obj)}{l:LV}{x:Val}{rv:Value}(hl:look σ.own l=some x)(y:LR c R l rv):LR c (R.Gk ca ex) l rv:=by
 induction y using LR.casesOn with
 |v y=>exact .v (VR.LB (fW r.nd r.zs hc hd) y)
 |loc e=>exact .loc e
 |app _ _=>cases hl
 |fn _=>cases hl
theorem W0{ca:Addr}{o:Obj}(r:RelL c f R σ m led)(hx:(ca,o)∈R.ex)(le:(R.fixC (ca,o)).le R'):R.le (R'.Gk ca R.ex):=
 ⟨le.ρ,le.ω,fun p hp=>IV.mpr ⟨le.zs p (zC _ hp),r.D4 p hp _ hx⟩,rfl,le.sd⟩
theorem WZ{ca:Addr}{o:Obj}(r:RelL c f R σ m led)(hx:(ca,o)∈R.ex)(le:(R.fixC (ca,o)).le R'):(∀p∈R.ex,p.1=ca→p=(ca,o))∧∀p∈R.ex,p.1≠ca→p∈R'.ex:=
 ⟨fun p hp e=>by
  obtain⟨a,o'⟩:=p
  have e:a=ca:=e
  subst e
  rw[Lx r.nd (r.ex _ hp) (r.ex _ hx)],fun p hp hn=>by rw[le.ex];exact IV.mpr ⟨hp,hn⟩⟩
end
end
section
set_option maxHeartbeats 4000000
section
variable {c:Cx}{d:Nat}{f:Fx}{A₀ A:Around}{R:Rec}{σ:St}{s:Shared}{m:Str→Option Value}{led:List (Addr×Obj)}{sd:Option (Addr×Addr)}{fs:List (Option Val)}{hp:List Cell}{D:En}{k:Nat}{a:Addr}{cdv:Value}
theorem Rel.Vb{h:Heap}(r:Rel c f R σ h m led){loc:List (Option LV)}(hs:∀(k:Nat) (n:Str) (v:LV),f.names[k]? =some n→Ax loc k=some v→∃rv,f.cs.names.lookup n=some .local∧m n=some rv∧LR c R v rv):Rel c f R ⟨loc,σ.own,σ.self,σ.heap⟩ h m led:=
 {r with slots:=fun k n v hk hv=>BM (hs k n v hk hv) fun rv h1 h2 h3=>(by rw[h1];exact⟨rv,h2,h3⟩)}
theorem YH{v u:LV}{n:Nat}:∀{k:Nat},Ax (some v::BK n:List (Option LV)) k=some u→k=0∧u=v
 |0,h=>⟨rfl,(ze h).symm⟩
 |k+1,h=>nomatch (Fw (k:=k)).symm.trans (show Ax (BK n) k=some u from h)
theorem P8{C C':Cfg}{P:Ne}{Ds:List (En×Addr×Value)}{K:Val→List (Option Val)→List Cell→Prop}{X:A7→List (Option Val)→List Cell→Prop}{Rp:PySem.Result→Shared→Prop}{xs:List Val}{qa ca:Addr}{oc:Obj}
  (H:DK c P Ds) (hC:C.call=AD P (d+1)) (hC':C'=⟨P.rx,AD P d,P.init,P.nf⟩) {fn:Fn} (hD:Ds[k]? =some (D,a,cdv)) (hf:P.fns[k]? =some fn) (hm:D.Ah=true)
  (hb:KM c C' d D.body D.qual D.scope a cdv D.names D.Ah fn.body) (hcall:C.call (2000+k) fs [.seq false xs] hp K X) (hX:∀x fs h,¬X x fs h)
  (q:SO c (d+1) f A₀ A R σ s m led sd [] [] fs hp D.Ah) (hx:(ca,oc)∈(R.call led sd).ex) (hoc:∃v,oc.data=.cell v) (z:Nc c ((R.call led sd).fixC (ca,oc)) xs qa) (hok:SY c f R s m led sd K Rp):
  codeAny (model c.prog c.w) A (.call (.ref a) ⟨AZ sd++[.ref qa],[]⟩) Rp s:=by
 have At:=H.hfn k D a cdv hD
 have hk:k < 1000:=by
  have h1:=(zu.mp hD).1
  have:=H.few
  lia
 rw[hC]at hcall
 have no1:P.fns[2000+k]? =none:=List.getElem?_eq_none (by rw[H.hlen];have:=H.few;lia)
 have hcall:(match P.fns[2000+k]? with |some fn=>_ |none=>match P.fns[2000+k - 2000]?,[Val.seq false xs]with
    |some fn,[.seq false xs]=>Br (Nat.beq 1 fn.ar) (Ay ⟨P.rx,AD P d,P.init,P.nf⟩ (DQ X) fn.body (DC K) ⟨some (.fn xs)::BK fn.nloc,[],BD fs,hp⟩) False
    |_,_=>False):=hcall
 rw[no1]at hcall
 have hcall:(match P.fns[2000+k - 2000]?,[Val.seq false xs]with
    |some fn,[.seq false xs]=>Br (Nat.beq 1 fn.ar) (Ay ⟨P.rx,AD P d,P.init,P.nf⟩ (DQ X) fn.body (DC K) ⟨some (.fn xs)::BK fn.nloc,[],BD fs,hp⟩) False
    |_,_=>False):=hcall
 rw[jn,hf]at hcall
 refine Ao (BQ hcall) fun har0 hw=>?_
 rw[←hC']at hw
 have har:1=D.pargs.length:=(zD har0).trans (H.har k D a cdv fn hD hf)
 have hargs:(AZ sd++[Value.ref qa]).length=(D.AI c.self).length:=NV q.hmeth har
 refine DE q.G.fr fun outer A₁ base hfr₀ B₀=>?_
 have hfr:A.frames=some (f.env::outer):=q.nr.f.trans hfr₀
 refine EG q.G.T fun p loose mean mg mb T=>?_
 refine EG At.at_ fun dV kV doc pm an h=>SN h fun ct oc' od osl hlk hbind=>?_
 have Xs:c.K.In s.heap:=q.G.X.keeps q.r.F.keep
 refine callX_plain B₀ q.r.F q.r.N T.nolimit hfr rfl q.G.kind (Xs _ _ hlk) rfl (codeRec_of Xs At.code) q.room (BindsTo.of_eq (hbind _ hargs)) (fun y hy=>NW At y.1 (List.of_mem_zip (b:=y.2) hy).1) (fun g L' h₁ FG F N B' st hlt=>?_) At.nocell At.co At.gen At.kind
 have r₀:Rel c (Fo D L' a cdv g) (R.call led sd) ⟨[],[],BD fs,hp⟩ h₁ (fun y=>((D.AI c.self).zip (AZ sd++[.ref qa])).reverse.lookup y) led:=
  q.r.enter (f':=Fo D L' a cdv g) (cells:=[]) F N rfl List.nodup_nil (fun _ _ _ h=>nomatch h) (fun b o e=>st b o (q.r.B b o e)) (fun j n v hn hv=>by cases hv) (fun _ _ h=>nomatch h) (fun x dx e=>by
   refine Ao (q.hself x dx e) fun z1 z2=>?_
   exact⟨N0 q.hmeth (NY At) e,z1,z2⟩) (fun e=>by rw[q.hself0 e];rfl) q.hh q.hlen q.hdx
 have r₁:=(r₀.fix hx).Vb (loc:=some (.fn xs)::BK fn.nloc) fun j n v hn hv=>by
  refine Ao (YH hv) fun e1 e2=>?_
  subst e1;subst e2
  have hnj:D.pargs[0]? =some n:=by
   have hn:(D.pargs++D.locs)[0]? =some n:=hn
   rwa[zM (har▸Nat.one_pos)]at hn
  exact⟨.ref qa,At.kinds n (jh hn),NX q.hmeth (NY At) hnj rfl,.fn z⟩
 have G':Nb c (Fo D L' a cdv g) (A.deeper (Fo D L' a cdv g).env) d:=q.G.call q.nr hfr B' At.kind st
 have NM:Hs c (Fo D L' a cdv g):={nd:=At.nd,self:=At.self,kinds:=fun n hn=>.inl (At.kinds n hn),inj:=(fun _ _ _ h=>nomatch h),dbg:=At.dbg}
 refine hb (Fo D L' a cdv g) _ ((R.call led sd).fixC (ca,oc)) _ {s with heap:=h₁,toks:=s.toks+((D.AI c.self).zip (AZ sd++[.ref qa])).length} _ _ (DQ X) (DC K) rfl rfl rfl rfl rfl rfl q.hmeth G' NM (RK q.hmeth hargs) r₁ (fun x σ hx=>Ab (Ae hx) fun fs' _ hx=>hX _ _ _ hx) hw _ _ fun o σ' R' fl s' le sm hk rx hfl=>?_
 refine Aq rx fun m' led' r'=>?_
 have fin:∀{lv:LV} {rv:Value},Qe K lv σ'→LR c R' lv rv→LeaveK f.h₀ f.L m g Rp rv s':=fun{lv rv} hk hlr=>by
  refine Ab (Ae hk) fun x hx' hk=>?_
  refine Ab (Ae hk) fun fs' ND hk=>?_
  have hz:(ca,oc)∈R'.zs:=le.zs _ (.head _)
  have ex:=WZ r₀.toRelL hx le
  exact leaveK_ r'.F r'.N fun F'' N''=>hok x fs' σ'.heap rv s' (Fo D L' a cdv g).kl _ σ' m' led' lv hk ⟨sm.gens,sm.drawn,sm.os,zl (zA _ _) sm.tk⟩ (W0 r₀.toRelL hx le) ((r'.toRelL.Gk hz hoc ex.1 ex.2 ND).at_ r'.F r'.N) hx' (TP r'.toRelL hz hoc hx' hlr) ND rfl F'' N''
 induction o using Out.casesOn with
 |next=>cases fl with
  |next=>exact fin (lv:=.v .none) hk (.v .none)
  |_=>exact hfl.elim
 |ret lv=>cases fl with
  |ret rv=>exact fin hk hfl
  |_=>exact hfl.elim
 |brk=>exact hk.elim
 |cont=>exact hk.elim
end
end
section
set_option maxHeartbeats 4000000
section
variable {c:Cx}{f:Fx}{R R':Rec}{σ σ':St}{h h':Heap}{m:Str→Option Value}{led:List (Addr×Obj)}
noncomputable def Rec.Lh(R:Rec)(led:List (Addr×Obj)):Rec:=CO ⟨[],[],[],R.ex,R.sd⟩ R led
theorem Rel.freeze(r:Rel c f R σ h m led)(hs:R.sd=none){loc':List (Option Val)}(hl:fz σ.own σ.loc=some loc'):Rel c f (R.Lh led) ⟨BD loc',[],[],σ.heap⟩ h m led:=by
 have upz:∀a o,c.Z R a o→c.Z (R.Lh led) a o:=fun _ _ z=>z.imp id fun z=>zr _ z
 have up:∀x v,c.V R x v→c.V (R.Lh led) x v:=fun _ _ y=>VR.mono upz ⟨[],(zL _).symm⟩ y
 have mut':∀a,Hr f (R.Lh led) a→Hr f R a∧a∉R.ω:=fun a ha=>by
  rcases ha with ha |ha |ha |⟨x,ha⟩
  ·exact⟨.inl ha,fun hb=>Gx r.D1 ha hb rfl⟩
  ·cases ha
  ·exact⟨.inr (.inr (.inl ha)),fun hb=>Ma r.D1 hb ha rfl⟩
  ·have ha:R.sd=some (x,a):=ha
   rw[hs]at ha;cases ha
 have own:∀p∈led.filter (fun p=>R.ω.contains p.1),p∈led∧p.1∈R.ω:=fun p hp=>by
  have hp:=jf.mp hp
  refine⟨hp.1,?_⟩
  have:=hp.2
  rw[jG]at this
  exact z7 this
 refine{F:=r.F,N:=r.N,nd:=r.nd,slots:=fun k n v hk hv=>?_,clo:=r.clo,self:=fun x dx e=>?_,self0:=fun _=>rfl,ml:=fun a ha=>r.ml a (mut' a ha).1,hlen:=r.hlen,cells:=fun j fs hj=>?_,oln:=rfl,owns:=fun k xs hk=>(by cases hk),zs:=fun p hp=>?_,ex:=r.ex,D1:=?_,D2:=fun x dx e=>?_,D3:=fun a ha p hp=>?_,D4:=fun p hp q hq=>?_,B:=r.B}
 ·have g:=(Mx hl).2 k
  have h0:=r.slots k n
  revert g h0
  induction Ax σ.loc k using zh with
  |none=>intro g;rw[show Ax (BD loc') k=some v from hv]at g;cases g
  |some l=>
   intro g h0
   refine Ab g fun x g1 g2=>?_
   have e:=ze (g2.symm.trans hv)
   subst e
   exact Cz (fun _ _ _ y=>y) (fun _ y=>.v (FH r.toRelL g1 y)) (h0 l hk rfl)
 ·have e:R.sd=some (x,dx):=e
  rw[hs]at e;cases e
 ·refine CS (r.cells j fs hj) fun a es n a1 a2 a3=>?_
  exact⟨a,es,n,a1,a2,Aj.BD up a3⟩
 ·rcases zF.mp hp with hp |hp
  ·exact r.zs p hp
  ·exact(own p hp).1
 ·show(R.ρ++[]++List.map (fun p:Str×Addr=>p.2) f.cl).Nodup
  rw[zL,z8]
  exact⟨GB r.D1,fZ r.D1,fun a ha b hb=>GC r.D1 ha hb⟩
 ·have e:R.sd=some (x,dx):=e
  rw[hs]at e;cases e
 ·refine Ao (mut' a ha) fun h1 h2=>?_
  rcases zF.mp hp with hp |hp
  ·rcases zF.mp hp with hp |hp
   ·exact r.D3 a h1 p (zr _ hp)
   ·exact fun e=>h2 (e▸(own p hp).2)
  ·exact r.D3 a h1 p (zj _ hp)
 ·rcases zF.mp hp with hp |hp
  ·exact r.D4 p hp q hq
  ·exact fun e=>r.D3 p.1 (.inr (.inl (own p hp).2)) q (zj _ hq) e.symm
theorem Rel.ZT(r:Rel c f R σ h m led){P:Addr}{o o':Obj}(hx:(P,o)∈R.ex)(F:Fr f.h₀ f.L h' m)(N:News f.h₀ f.L h' (put P o' led)):Rel c f ⟨R.ρ,R.ω,R.zs,put P o' R.ex,R.sd⟩ σ h' m (put P o' led):=by
 have nM:∀a,Hr f R a→a≠P:=fun a ha e=>r.D3 a ha _ (zj _ hx) e.symm
 have nz:∀p∈R.zs,p.1≠P:=fun p hp=>r.D4 p hp _ hx
 have hc:P∉f.cl.map (·.2):=fun hb=>nM P (.inr (.inr (.inl hb))) rfl
 have keys:∀p∈put P o' R.ex,∃q∈R.ex,q.1=p.1:=fun p hp=>by
  refine Ab (zK.mp hp) fun q hq e=>⟨q,hq,?_⟩
  by_cases hqa:q.1=P
  ·rw[zX hqa]at e;rw[←e];exact hqa
  ·rw[zP hqa]at e;rw[e]
 have up:∀v rv,LR c R v rv→LR c ⟨R.ρ,R.ω,R.zs,put P o' R.ex,R.sd⟩ v rv:=fun _ _ y=>LR.EX (ex:=put P o' R.ex) y
 refine{F:=F,N:=N,nd:=by rw[B5];exact r.nd,slots:=fun k n v hk hv=>Cz (fun _ _ _ x=>x) (fun _ y=>up _ _ y) (FI r hc hk hv),clo:=IO r hc,self:=fun x dx hs=>?_,self0:=r.self0,ml:=fun a ha=>by rw[B5];exact r.ml a ha,hlen:=r.hlen,cells:=fun j fs hj=>?_,oln:=r.oln,owns:=fun k xs hk=>?_,zs:=fun p hp=>AK (r.zs p hp) (nz p hp),ex:=fun p hp=>?_,D1:=r.D1,D2:=r.D2,D3:=fun a ha p hp=>?_,D4:=fun p hp q hq=>?_,B:=r.B}
 ·obtain⟨a1,a2,es,n,a3,a4⟩:=r.self x dx hs
  exact⟨a1,a2,es,n,AK a3 (nM dx (.inr (.inr (.inr ⟨x,hs⟩)))),Aj.same up a4⟩
 ·refine CS (r.cells j fs hj) fun a es n a1 a2 a3=>?_
  exact⟨a,es,n,a1,AK a2 (nM a (.inl (Av a1))),Aj.same up a3⟩
 ·refine AR (r.owns k xs hk) fun a vs n a1 a2 a3 a4=>?_
  exact⟨a,vs,n,a1,AK a2 (nM a (.inr (.inl (Av a1)))),a3,a4⟩
 ·refine Ab (zK.mp hp) fun q hq e=>?_
  exact zK.mpr ⟨q,r.ex q hq,e⟩
 ·rcases zF.mp hp with hp |hp
  ·exact r.D3 a ha p (zr _ hp)
  ·refine Ab (keys p hp) fun q hq e=>?_
   rw[←e];exact r.D3 a ha q (zj _ hq)
 ·refine Ab (keys q hq) fun q' hq' e=>?_
  rw[←e];exact r.D4 p hp q' hq'
end
end
section
set_option maxHeartbeats 4000000
section
variable {c:Cx}{C C':Cfg}{S:Sx}{d:Nat}{f:Fx}{A:Around}{X:A7→St→Prop}{R R':Rec}{σ σ':St}{s s':Shared}{m:Str→Option Value}{led:List (Addr×Obj)}{Ev:Value→Shared→Prop}
structure PG(c:Cx)(f:Fx)(P cc ca:Addr)(pos:Pos):Prop where
 hd:CodeHd f.h₀ cc P
 cd:f.cd=.ref cc
 cl:f.cl=[(c.lam.nm,ca)]
 kind:f.cs.names.lookup c.lam.nm=some .cell
 clos:closureFor c.lam.scope f.env=pure [(c.lam.nm,ca)]
 qual:f.env.qual++"<lambda>"=c.lam.qual
 dflt:defaultsOf c.lam.params f.env=([],[])
theorem gy{R:Rec}{led:List (Addr×Obj)}{h:Heap}(r:Rel c f R σ h m led){i k:Nat}{ca:Addr}{xs:List Val}(hi:f.names[i]? =some c.lam.nm)(hk:f.cs.names.lookup c.lam.nm=some .cell)(hcl:f.cl=[(c.lam.nm,ca)])(hil:Ax σ.loc i=some (.loc k))(ho:CW σ.own k=some xs):
  ∃oca la ws n,(ca,oca)∈led∧oca.data=.cell (some (.ref la))∧(la,seqObj false ws n)∈(R.Lh led).zs∧c.Vs (R.Lh led) xs ws∧xs.length≤Az:=by
 have h1:=r.slots i c.lam.nm _ hi hil
 rw[hk]at h1
 refine AR h1 fun a o rv a1 a2 a3 a4=>?_
 rw[hcl,jg,jF]at a1
 cases a1
 refine Ab a4.Q3 fun la e hω=>?_
 subst e
 refine AR (r.owns k xs ho) fun la' ws n b1 b2 b3 b4=>?_
 rw[hω]at b1;cases b1
 refine⟨o,la,ws,n,a2,a3,zj _ (jf.mpr ⟨b2,?_⟩),Bv.mono (fun _ _ z=>z.imp id fun z=>zr _ z) ⟨[],(zL _).symm⟩ b4,b3⟩
 rw[jG];exact js (Av hω)
theorem YC{P:Ne}{Ds:List (En×Addr×Value)}(H:DK c P Ds)(hC:C.call=AD P (d+1))(hC':C'=⟨P.rx,AD P d,P.init,P.nf⟩){kf:Nat}{D:En}{ad:Addr}{cdv:Value}{fn:Fn}(hD:Ds[kf]? =some (D,ad,cdv))(hf:P.fns[kf]? =some fn)(hmD:D.Ah=true)
  (hb:KM c C' d D.body D.qual D.scope ad cdv D.names D.Ah fn.body) (a:At c S (d+1) f A X R σ s) (hm:S.Ah=false) (hX:Nd X)
  {n nj nf:Str} {j i i' k t:Nat} {q q' q'' pl p p':Pos} (hj:S.names[j]? =some nj) (hi:S.names[i]? =some c.lam.nm) (hi':S.names[i']? =some nf) (hfree:S.cs.names.lookup nf≠some .free) (hmt:SX c n kf) (hl1:(q.endLine==p.line)=true) {Pt cc ca:Addr} (la:PG c f Pt cc ca pl)
  {fs:List (Option Val)} {xs:List Val} {loc':List (Option Val)} (hlj:Ax σ.loc j=some (.v (.obj t))) (hfl:σ.heap[t]? =some (Ak.Cell.flds fs)) (hil:Ax σ.loc i=some (.loc k)) (ho:CW σ.own k=some xs) (hfz:fz σ.own σ.loc=some loc')
  (hP:(Pt,tabObj #[])∈R.ex) {K:Val→List (Option Val)→List Cell→Prop} {X':A7→List (Option Val)→List Cell→Prop} (hcall:C.call (2000+kf) fs [.seq false xs] (σ.heap.set t .taken) K X') (hX':∀x fs h,¬X' x fs h)
  {Q:Flow→Shared→Prop} (hq:∀r fs' h' R' s' ps,K r fs' h'→Ar s s'→At c S (d+1) f A X R' ⟨Bg (BD loc') i' (.v r),[],[],h'.set t (.flds fs')⟩ s'→(Pt,tabObj ps)∈R'.ex→Q .next s'):
  wpAny (model c.prog c.w) A (exec (.Assign [.Name nf q''] (.Call (.Attribute (.Name nj q') n q) [.Lambda c.lam.params c.lam.body c.lam.scope pl] [] p) p') f.env) Q Ev s:=by
 have hsd:R.sd=none:=by
  have:=a.Ah
  rw[hm]at this
  induction q:R.sd using zh with
  |none=>rfl
  |some _=>rw[q]at this;cases this
 refine wpAny_Assign_Name ?_ (DY rfl)
 refine L8 hmt.at_ fun ad' h1 h2 h3 h4=>?_
 have had:ad'=ad:=ze (h1.symm.trans (H.hfn kf D ad cdv hD).fad)
 subst had
 refine Aq a.r fun m led r0=>?_
 refine Bq (fun _ _ _=>rfl) rfl (zp rfl) hl1 (Ch a.G a.NM r0 (by rw[a.names];exact hj) hlj fun rv hlr plr=>?_)
 have hV:=Bu (x:=.obj t) rfl hlr
 refine Ba (VR.XE hV) fun x dx hq2 z hd=>?_;subst hq2
 refine CS (r0.cells t fs hfl) fun dx' es' n' z0 z1 z2=>?_
 rw[hd]at z0;cases z0
 have I:InstAt s.heap x (instObj c.PC dx) c.PC (some (dictOf es' n')):=⟨r0.get z,rfl,rfl,r0.BN z1⟩
 refine method_inst r0.F a.G.X I hmt.get h2 h3 (z2.2.1 _ hmt.no) (Dy a.G.X h4 (xs:=[.Lambda c.lam.params c.lam.body c.lam.scope pl]) rfl (je (kla_eval la.dflt ?_) (Aa rfl)))
 rw[la.qual]
 refine EG a.G.T fun pg loose mean mg mb T=>?_
 refine Gl (kla_nest (cn:=f.cn) (cs:=f.cs) (L:=f.L) (a:=f.fa) (ccd:=f.cd) (cl:=f.cl) (g:=fun o'=>put Pt o' led) r0.F r0.N T la.hd la.cd (L6 (r0.ex _ hP) r0.nd) trivial rfl la.clos fun qa c' oc vs tk ctv h' tk' F1 N1 hoc hvs hlt hlt'=>fun htk=>?_)
 generalize(#[]++ #[rawInt pl.line,rawInt pl.col,Value.ref c']:Array Value)=ps at N1
 refine jT ?_
 have N3:News f.h₀ f.L h' (put Pt (tabObj ps) led):=fun p hp=>N1 p (.tail _ (.tail _ hp))
 have r1:=r0.ZT hP F1 N3
 have keys:∀p∈put Pt (tabObj ps) led,p.1 < c':=fun p hp=>by
  have:p.1∈led.map (·.1):=by rw[←B5 Pt (tabObj ps)];exact zK.mpr ⟨p,hp,rfl⟩
  refine Ab (zK.mp this) fun w hw e=>?_
  rw[←e];exact hlt w hw
 refine Gw (r1.frozen F1 (fun p hp=>N1 p (.tail _ hp)) keys) fun R2 le2 r2 zc _ _=>?_
 refine Gw (r2.frozen F1 N1 (fun p hp=>by
  rcases z5.mp hp with e |hp
  ·rw[e];exact hlt'
  ·exact Nat.lt_trans (keys p hp) hlt')) fun R3 le3 r3 zq _ _=>?_
 have le13:=le2.trans le3
 have hsd3:R3.sd=none:=le13.sd.trans hsd
 have rx3:Al c f R3 σ h':=⟨_,_,r3⟩
 clear r3 r2 r1
 refine Aq rx3 fun m3 led3 r3=>?_
 have hnm:f.names[i]? =some c.lam.nm:=by rw[a.names];exact hi
 refine Aq (gy r3 hnm la.kind la.cl hil ho) fun oca lad h=>Vc h fun ws nn y1 y2 y3 y4 y5=>?_
 have r4:=r3.freeze hsd3 hfz
 have leV4:Rec.HG ⟨R.ρ,R.ω,R.zs,put Pt (tabObj ps) R.ex,R.sd⟩ (R3.Lh led3):=⟨le13.ρ,fun p hp=>zr _ (le13.zs p hp)⟩
 have hV4:c.V (R3.Lh led3) (.obj t) (.ref x):=V.fX leV4 (show c.V _ (.obj t) (.ref x)from hV)
 refine Ba (VR.XE hV4) fun x4 dx4 e4 zx hdx=>?_
 cases e4
 refine CS (r4.cells t fs hfl) fun dx5 es5 n5 c1 c2 c3=>?_
 have e5:dx4=dx5:=ze (hdx.symm.trans c1)
 subst e5
 have a4:At c S (d+1) f A X (R3.Lh led3) ⟨BD loc',[],[],σ.heap⟩ {s with heap:=h',toks:=tk'}:=⟨a.G,a.NM,a.names,a.cs,by rw[show(R3.Lh led3).sd=none from hsd3];exact hm.symm,fun h=>(by rw[hm]at h;cases h),⟨_,_,r4⟩,a.nv⟩
 refine⟨a4.In,?_⟩
 have cin:=Vy (A:=A) (σ:=⟨BD loc',[],[],σ.heap⟩) (s:={s with heap:=h',toks:=tk'}) a.G (.refl A) r4 hfl zx hdx c2 c3 (vs:=[]) (rvs:=[]) .nil hmD
 have caM:Hr f (R3.Lh led3) ca:=.inr (.inr (.inl (by rw[la.cl];exact .head _)))
 have hcax:(ca,oca)∈((R3.Lh led3).call led3 (some (x,dx4))).ex:=jf.mpr ⟨y1,EW.mpr ⟨fun hb=>GC r4.D1 hb (by rw[la.cl];exact .head _) rfl,fun e=>by
   have e:dx4=ca:=ze e
   exact GC r4.D1 (Av hdx) (by rw[la.cl];exact .head _) e,fun hb=>by
   refine Ab (zK.mp hb) fun w hw e=>?_
   exact r4.D3 ca caM w (zr _ hw) e⟩⟩
 have zf:Nc c (((R3.Lh led3).call led3 (some (x,dx4))).fixC (ca,oca)) xs qa:=
  ⟨_,c',ctv,oc,vs,tk,ca,oca,lad,ws,nn,.tail _ (zr _ zq),.tail _ (zr _ (le3.zs _ zc)),hoc,hvs,.head _,y2,⟨_,.inr (.tail _ y3),rfl,rfl⟩,Bv.mono (fun _ _ z=>z.imp id fun z=>.tail _ z) ⟨[],(zL _).symm⟩ y4,y5⟩
 refine JN (P8 H hC hC' hD hf hmD hb hcall hX' cin hcax ⟨_,y2⟩ zf fun r' fs' h'' rv s' f' R' σ' m' led' lv hk sm le r₁ hlook hlr' hfz' hheap F N=>?_)
 subst hheap
 have hsd':R'.sd=some (x,dx4):=le.sd
 refine Bi (r₁.self x dx4 hsd') fun _ _ h=>A6 h fun es' n' w1 w2=>?_
 have hρ:=GB r4.D1
 obtain⟨rn,len⟩:=r4.toRelL.leave (sd:=some (x,dx4)) (fsl:=[]) (hp:=σ'.heap.set t (.flds fs')) le r₁.toRelL (fun x' dx' e=>by cases e;exact .inr ⟨hsd3,Av hdx⟩) (fun h=>absurd hsd3 h) (fun x dx es n e=>by rw[show(R3.Lh led3).sd=none from hsd3]at e;cases e) (fun _=>rfl) (jV ..)
  (fun i fs hi=>by
   by_cases e:t=i
   ·subst e
    have hlt:t < σ'.heap.length:=by
     have:=(zu.mp hi).1
     rwa[jV]at this
    rw[Jk hlt]at hi
    cases hi
    refine .inr ⟨dx4,es',n',?_,w1,C7 r₁.toRelL hfz' w2,hsd3⟩
    refine zg le.ρ fun t ht=>?_
    rw[ht]
    show((R3.Lh led3).ρ++t)[_]? =some dx4
    rw[zM (zu.mp hdx).1];exact hdx
   ·rw[Js e]at hi
    exact .inl hi)
 have smm:Ar s s':=⟨sm.gens,sm.drawn,sm.os,zl htk sm.tk⟩
 ·refine BS a.G a.NM (rn.at_ F N) (by rw[a.names];exact hi') (by rw[a.cs];exact hfree) (.v (FH r₁.toRelL hlook hlr')) fun s'' sm'' r''=>?_
  refine hq r' fs' σ'.heap _ s'' ps hk (smm.trans sm'') ⟨a.G,a.NM,a.names,a.cs,?_,fun h=>(by rw[hm]at h;cases h),r'',a.nv⟩ ?_
  ·show(R3.Lh led3).sd.isSome=S.Ah
   rw[show(R3.Lh led3).sd=none from hsd3];exact hm.symm
  ·show _∈R3.ex
   rw[le13.ex]
   exact B3 hP
end
end
section
section
variable {c:Cx}{S:Sx}
theorem UR{w:Val}(h:BC w=true):∃t,w=.str t:=by
 induction w using Val.casesOn with
 |str t=>exact⟨t,rfl⟩
 |_=>exact nomatch h
theorem NR{n:Str}{id:String}{sem:Val→List Val→Option Val}(slot:Slot "str" n id)(ty:typeOf (.builtin id)=pure (.type "method_descriptor"))
  (op:∀{f:Fx} {A:Around} {R:Rec} {σ:St} {s:Shared} {t:Txt} {tk:Tok} {ws:List Val} {vs:List Value} {v:Val},A.handled=none→Al c f R σ s.heap→t.length≤Az→c.Vs R ws vs→sem (.str t) ws=some v→AL c f A R σ s (call (.builtin id) (.str ⟨t.toArray⟩ tk::vs)) v):
  Bc c S n BC sem:=by
 intro d f A X R σ s a apos pos o xs Ev Q hb hp hl hl1 h
 refine Bq hb hp hl hl1 (zZ h (fun ov s₁ h₁ pl=>?_) fun _ _ x=>x)
 refine AR h₁ ?_;clear h₁;intro R₁ σ₁ w a₁ hw hat h₁
 refine zg (UR hat) fun t ew=>?_
 rw[ew]at hw h₁
 refine Ab hw.inv fun tk hlen er=>?_
 rw[er]
 refine GM.of _ (Jr _ _ _) slot ty (fun _ h=>nomatch h) ?_
 have fin:∀vs s₂,(∃R₂ σ₂ ws,R₁.le R₂∧c.Vs R₂ ws vs∧After c S d f A X (sem (.str t) ws) Q R₂ σ₂ s₂)→wpAny (model c.prog c.w) A (call (.builtin id) ([.str ⟨t.toArray⟩ tk]++vs)) Q Ev s₂:=fun vs s₂ h=>
  CS h fun R₂ σ₂ ws le hvs h=>BM h fun v hv a₂ hq=>op a₂.G.hh a₂.r hlen hvs hv Ev Q fun R' rv s' le' sm r' hv'=>hq R' rv s' le' sm r' hv'
 induction xs using zi with
 |nil=>exact fun Γ p hΓ=>(PyProof.Rows.callWith_method0 (fin [] s₁ (h₁ Γ p hΓ))) Γ p hΓ
 |cons x xs=>
  have hp':=zz.mp (jP.symm.trans hp)
  exact jQ (zZ h₁ fin fun _ _ x=>x) (Aa hp'.1) (Aw hp'.2)
theorem Xr{F:Val→Val→Val→Option Val}{x:Val}{ws:List Val}{v:Val}(h:(match x,ws with |x,[y,z]=>F x y z |_,_=>none)=some v):∃y z,ws=[y,z]∧F x y z=some v:=by
 induction ws using zi with
 |nil=>exact nomatch h
 |cons y ws=>induction ws using zi with
  |nil=>exact nomatch h
  |cons z ws=>induction ws using zi with
   |nil=>exact⟨y,z,rfl,h⟩
   |cons _ _=>exact nomatch h
theorem Q6{F:Val→Val→Val→Val→Option Val}{x:Val}{ws:List Val}{v:Val}(h:(match x,ws with |x,[y,z,w]=>F x y z w |_,_=>none)=some v):∃y z w,ws=[y,z,w]∧F x y z w=some v:=by
 induction ws using zi with
 |nil=>exact nomatch h
 |cons y ws=>induction ws using zi with
  |nil=>exact nomatch h
  |cons z ws=>induction ws using zi with
   |nil=>exact nomatch h
   |cons w ws=>induction ws using zi with
    |nil=>exact⟨y,z,w,rfl,h⟩
    |cons _ _=>exact nomatch h
theorem M7{F:Val→Option Val}{ws:List Val}{v:Val}(h:(match ws with |[y]=>F y |_=>none)=some v):∃y,ws=[y]∧F y=some v:=by
 induction ws using zi with
 |nil=>exact nomatch h
 |cons y ws=>induction ws using zi with
  |nil=>exact⟨y,rfl,h⟩
  |cons _ _=>exact nomatch h
theorem OG{rx:Rx}{t:Txt}{y z v:Val}(h:Dr rx .find (.str t) y z=some v):∃x a,y=.str x∧z=.int (.ofNat a)∧v=.int (Di x t a t.length):=by
 induction y using Val.casesOn with
 |str x=>induction z using Val.casesOn with
  |int i=>induction i using zW with
   |ofNat a=>exact⟨x,a,rfl,rfl,(ze h).symm⟩
   |negSucc _=>exact nomatch h
  |_=>exact nomatch h
 |_=>exact nomatch h
theorem OH{t:Txt}{y z w v:Val}(h:HK .find (.str t) y z w=some v):∃x a b,y=.str x∧z=.int (.ofNat a)∧w=.int (.ofNat b)∧v=.int (Di x t a (min b t.length)):=by
 induction y using Val.casesOn with
 |str x=>induction z using Val.casesOn with
  |int i=>induction i using zW with
   |ofNat a=>induction w using Val.casesOn with
    |int j=>induction j using zW with
     |ofNat b=>exact⟨x,a,b,rfl,rfl,rfl,(ze h).symm⟩
     |negSucc _=>exact nomatch h
    |_=>exact nomatch h
   |negSucc _=>exact nomatch h
  |_=>exact nomatch h
 |_=>exact nomatch h
theorem MR{t:Txt}{y z w v:Val}(h:HK .rfind (.str t) y z w=some v):∃x a b,y=.str x∧z=.int (.ofNat a)∧w=.int b∧v=.int (Ck x t a (clip t.length b)):=by
 induction y using Val.casesOn with
 |str x=>induction z using Val.casesOn with
  |int i=>induction i using zW with
   |ofNat a=>induction w using Val.casesOn with
    |int j=>exact⟨x,a,j,rfl,rfl,rfl,(ze h).symm⟩
    |_=>exact nomatch h
   |negSucc _=>exact nomatch h
  |_=>exact nomatch h
 |_=>exact nomatch h
theorem kW{R:Rec}{x y:Val}{vs:List Value}(h:c.Vs R [x,y] vs):∃a b,vs=[a,b]∧c.V R x a∧c.V R y b:=
 Ba h.Cc fun a ws e h1 h=>Ba h.Cc fun b us e' h2 h=>⟨a,b,by rw[e,e',h.Fu],h1,h2⟩
theorem kX{R:Rec}{x y z:Val}{vs:List Value}(h:c.Vs R [x,y,z] vs):∃a b d,vs=[a,b,d]∧c.V R x a∧c.V R y b∧c.V R z d:=
 Ba h.Cc fun a ws e h1 h=>Ba (kW h) fun b d e' h2 h3=>⟨a,b,d,by rw[e,e'],h1,h2,h3⟩
theorem Rf{rx:Rx}:Bc c S "find" BC (fun |x,[y,z]=>Dr rx .find x y z |_,_=>none):=by
 refine NR (id:="str.find") PySem.F.slot_str_find PySem.F.type_str_find ?_
 intro f A R σ s t tk ws vs v hh r hl hv h
 refine A6 (Xr (F:=Dr rx .find) (x:=.str t) (ws:=ws) (v:=v) h) fun y z ew h=>?_
 refine Ba (OG h) fun x a ey ez ev=>?_
 rw[ew,ey,ez]at hv
 refine Ba (kW hv) fun p q evs h1 h2=>?_
 refine Ab h1.inv fun t1 _ e1=>zg h2.inv fun t2 e2=>?_
 rw[evs,e1,e2,ev]
 exact Ur r
theorem Rg:Bc c S "find" BC (fun |x,[y,z,w]=>HK .find x y z w |_,_=>none):=by
 refine NR (id:="str.find") PySem.F.slot_str_find PySem.F.type_str_find ?_
 intro f A R σ s t tk ws vs v hh r hl hv h
 refine DE (Q6 (F:=HK .find) (x:=.str t) (ws:=ws) (v:=v) h) fun y z w ew h=>?_
 refine AR (OH h) fun x a b ey ez eb ev=>?_
 rw[ew,ey,ez,eb]at hv
 refine AR (kX hv) fun p q u evs h1 h2 h3=>?_
 refine Ab h1.inv fun t1 _ e1=>zg h2.inv fun t2 e2=>zg h3.inv fun t3 e3=>?_
 rw[evs,e1,e2,e3,ev]
 exact Us r
theorem OY:Bc c S "rfind" BC (fun |x,[y,z,w]=>HK .rfind x y z w |_,_=>none):=by
 refine NR (id:="str.rfind") PySem.F.slot_str_rfind PySem.F.type_str_rfind ?_
 intro f A R σ s t tk ws vs v hh r hl hv h
 refine DE (Q6 (F:=HK .rfind) (x:=.str t) (ws:=ws) (v:=v) h) fun y z w ew h=>?_
 refine AR (MR h) fun x a b ey ez eb ev=>?_
 rw[ew,ey,ez,eb]at hv
 refine AR (kX hv) fun p q u evs h1 h2 h3=>?_
 refine Ab h1.inv fun t1 _ e1=>zg h2.inv fun t2 e2=>zg h3.inv fun t3 e3=>?_
 rw[evs,e1,e2,e3,ev]
 exact RR r
theorem VA{n:Str}{id:String}{sem:List Val→Option Val}(b:Px c S n (.builtin id))
  (op:∀{f:Fx} {A:Around} {R:Rec} {σ:St} {s:Shared} {ws:List Val} {vs:List Value} {v:Val},A.handled=none→Al c f R σ s.heap→Mc c R s.heap ws vs→sem ws=some v→AL c f A R σ s (call (.builtin id) vs) v):Bb c S n sem:=by
 intro d f A X R σ s a npos pos x xs Ev Q hp h
 rw[Au]
 refine zn (Fk a b ?_)
 have hp':=zz.mp (jP.symm.trans hp)
 refine PyProof.Rows.callWith_builtin1 (zZ h (fun vs s₁ h₁=>?_) fun _ _ x=>x) (Aa hp'.1) (Aw hp'.2)
 refine DE h₁ fun R₁ σ₁ ws hvs h=>BM h fun v hv a₁ hq=>?_
 exact op a₁.G.hh a₁.r hvs hv Ev Q fun R' rv s' le sm r hv'=>hq R' rv s' le sm r hv'
theorem aF{n:Str}{T:String}{sem:List Val→Option Val}(b:Px c S n (.type T))
  (op:∀{f:Fx} {A:Around} {R:Rec} {σ:St} {s:Shared} {ws:List Val} {vs:List Value} {v:Val},A.handled=none→Al c f R σ s.heap→Mc c R s.heap ws vs→sem ws=some v→AL c f A R σ s (call (.type T) vs) v):Bb c S n sem:=by
 intro d f A X R σ s a npos pos x xs Ev Q hp h
 rw[Au]
 refine zn (Fk a b ?_)
 have hp':=zz.mp (jP.symm.trans hp)
 refine JO (zZ h (fun vs s₁ h₁=>?_) fun _ _ x=>x) (Aa hp'.1) (Aw hp'.2)
 refine DE h₁ fun R₁ σ₁ ws hvs h=>BM h fun v hv a₁ hq=>?_
 exact op a₁.G.hh a₁.r hvs hv Ev Q fun R' rv s' le sm r hv'=>hq R' rv s' le sm r hv'
noncomputable def Zt(c:Cx)(R:Rec)(h:Heap):List Val→List Value→Prop
 |[],vs=>vs=[]
 |x::xs,vs=>∃v us,vs=v::us∧VH c R h x v∧Mc c R h xs us
theorem Mc.inv{R:Rec}{h:Heap}{xs:List Val}{vs:List Value}(y:Mc c R h xs vs):Zt c R h xs vs:=
 Mc.casesOn (motive:=fun xs vs _=>Zt c R h xs vs) y rfl fun a b=>⟨_,_,rfl,a,b⟩
theorem iR{R:Rec}{h:Heap}{x:Val}{vs:List Value}(y:Mc c R h [x] vs):∃v,vs=[v]∧VH c R h x v:=
 Ba y.inv fun v us e a b=>⟨v,by rw[e,(b.inv:us=[])],a⟩
theorem XA{rx:Rx}(b:Px c S "len" (.builtin "len")):Bb c S "len" (fun |[x]=>Bw rx .len x |_=>none):=by
 refine VA b fun{f A R σ s ws vs v} hh r hv h=>?_
 refine Ab (M7 (F:=Bw rx .len) (ws:=ws) (v:=v) h) fun x ew h=>?_
 rw[ew]at hv
 refine Ab (iR hv) fun u eu h1=>?_
 rw[eu]
 exact d0 (rx:=rx) r h1 h
theorem YI{rx:Rx}{x v:Val}(h:Bw rx .sum x=some v):∃xs k,x=.seq false xs∧sumOf xs=some k∧v=.int k:=by
 induction x using Val.casesOn with
 |seq tup xs=>induction tup using za with
  |true=>exact nomatch h
  |false=>
   have h:(match sumOf xs with |some k=>some (Val.int k) |none=>none)=some v:=h
   induction q:sumOf xs using zh with
   |none=>rw[q]at h;exact nomatch h
   |some k=>rw[q]at h;exact⟨xs,k,rfl,q,(ze h).symm⟩
 |_=>exact nomatch h
theorem XB{rx:Rx}(b:Px c S "sum" (.builtin "sum")):Bb c S "sum" (fun |[x]=>Bw rx .sum x |_=>none):=by
 refine VA b fun{f A R σ s ws vs v} hh r hv h=>?_
 refine Ab (M7 (F:=Bw rx .sum) (ws:=ws) (v:=v) h) fun x ew h=>?_
 refine Ba (YI h) fun xs k ex q ev=>?_
 rw[ew,ex]at hv
 refine Ab (iR hv) fun u eu h1=>?_
 rw[eu,ev]
 exact d9 hh r h1 q
theorem Sy{rx:Rx}{x v:Val}(h:Bw rx .tuple x=some v):∃xs,x=.seq false xs∧v=.seq true xs:=by
 induction x using Val.casesOn with
 |seq tup xs=>induction tup using za with
  |true=>exact nomatch h
  |false=>exact⟨xs,rfl,(ze h).symm⟩
 |_=>exact nomatch h
theorem Rq{rx:Rx}(b:Px c S "tuple" (.type "tuple")):Bb c S "tuple" (fun |[x]=>Bw rx .tuple x |_=>none):=by
 refine aF b fun{f A R σ s ws vs v} hh r hv h=>?_
 refine Ab (M7 (F:=Bw rx .tuple) (ws:=ws) (v:=v) h) fun x ew h=>?_
 refine Ab (Sy h) fun xs ex ev=>?_
 rw[ew,ex]at hv
 refine Ab (iR hv) fun u eu h1=>?_
 rw[eu,ev]
 exact Ut r h1
end
end
end Ak
end
namespace Ak
section
open PySem PySem.W PySem.Calls PyProof.Rows Builtin Builtin.Re
theorem ax:typeLookup (.type "re.Match") "__getattribute__"=pure (some (.builtin "object.__getattribute__")):=by rw[jC,jb];kernel_rfl
theorem Rh:typeLookup (.type "re.Match") "__getattr__"=pure none:=by rw[jC,jb];kernel_rfl
theorem RC:PlainAttrs "re.Match":=⟨⟨_,ax,by decide+kernel⟩,Rh⟩
theorem Xl:typeLookup (.type "re.Match") "end"=pure (some (.builtin "re.Match.end")):=by rw[jC,jb];kernel_rfl
theorem Sf:Slot "re.Match" "end" "re.Match.end":=
 .of (owner:="re.Match") (n:="end") Xl (by decide+kernel) (by decide+kernel) (by decide+kernel)
  (by first |exact .inl (by decide+kernel) |exact .inr (by decide+kernel)) (by rw[j9];kernel_rfl)
theorem Y9:typeOf (.builtin "re.Match.end")=pure (.type "method_descriptor"):=by show builtinType _=_;rw[JW];kernel_rfl
theorem OB:entryFor table "re.Match.end"=some Builtin.«re.Match.end»:=Jy (by kernel_rfl)
theorem PP(a:Value):argsOk "re.Match.end" ⟨[a],[]⟩:=by unfold argsOk;kernel_rfl
theorem Q1:typeLookup (.type "re.Match") "start"=pure (some (.builtin "re.Match.start")):=by rw[jC,jb];kernel_rfl
theorem MV:Slot "re.Match" "start" "re.Match.start":=
 .of (owner:="re.Match") (n:="start") Q1 (by decide+kernel) (by decide+kernel) (by decide+kernel)
  (by first |exact .inl (by decide+kernel) |exact .inr (by decide+kernel)) (by rw[j9];kernel_rfl)
theorem SG:typeOf (.builtin "re.Match.start")=pure (.type "method_descriptor"):=by show builtinType _=_;rw[JW];kernel_rfl
theorem K8:entryFor table "re.Match.start"=some Builtin.«re.Match.start»:=Jy (by kernel_rfl)
theorem Mg(a:Value):argsOk "re.Match.start" ⟨[a],[]⟩:=by unfold argsOk;kernel_rfl
theorem TM:typeLookup (.type "re.Match") "span"=pure (some (.builtin "re.Match.span")):=by rw[jC,jb];kernel_rfl
theorem Pb:Slot "re.Match" "span" "re.Match.span":=
 .of (owner:="re.Match") (n:="span") TM (by decide+kernel) (by decide+kernel) (by decide+kernel)
  (by first |exact .inl (by decide+kernel) |exact .inr (by decide+kernel)) (by rw[j9];kernel_rfl)
theorem U7:typeOf (.builtin "re.Match.span")=pure (.type "method_descriptor"):=by show builtinType _=_;rw[JW];kernel_rfl
theorem Mo:entryFor table "re.Match.span"=some Builtin.«re.Match.span»:=Jy (by kernel_rfl)
theorem Ot(a:Value):argsOk "re.Match.span" ⟨[a],[]⟩:=by unfold argsOk;kernel_rfl
section
variable {prog:Program}{w:World}{A:Around}
theorem Uy{a tp:Addr}{st pat:Value}{p l i s0 e0:Int}{n:Nat}{s:Shared}{Q:Value→Shared→Prop}{Ev:Value→Shared→Prop}(hx:s.heap.get? a=some (DF st pat p l i tp))(ht:s.heap.get? tp=some (seqObj true [rawInt s0,rawInt e0] n))
  (h:Q (.int e0 s.toks) {s with toks:=s.toks+1}):
  wpAny (model prog w) A (Builtin.«re.Match.end» ⟨[.ref a],[]⟩) (fun fin s'=>∃v,fin=.done (.ret v)∧Q v s') Ev s:=by
 obtain⟨hp,g,d,tk,os⟩:=s
 unfold Builtin.«re.Match.end» reOneGroup
 repeat (any_goals (first |assumption |wp_step))
 refine⟨_,rfl,?_⟩
 have e:((#[rawInt s0,rawInt e0]:Array Value).map reRawOf).getD 1 (-1)=e0:=by simp[reRawOf,rawInt]
 show Q (.int (((#[rawInt s0,rawInt e0]:Array Value).map reRawOf).getD 1 (-1)) tk) _
 rw[e]
 exact h
theorem O7{a tp:Addr}{st pat:Value}{p l i s0 e0:Int}{n:Nat}{s:Shared}{Q:Value→Shared→Prop}{Ev:Value→Shared→Prop}(hx:s.heap.get? a=some (DF st pat p l i tp))(ht:s.heap.get? tp=some (seqObj true [rawInt s0,rawInt e0] n))
  (h:Q (.int s0 s.toks) {s with toks:=s.toks+1}):
  wpAny (model prog w) A (Builtin.«re.Match.start» ⟨[.ref a],[]⟩) (fun fin s'=>∃v,fin=.done (.ret v)∧Q v s') Ev s:=by
 obtain⟨hp,g,d,tk,os⟩:=s
 unfold Builtin.«re.Match.start» reOneGroup
 repeat (any_goals (first |assumption |wp_step))
 refine⟨_,rfl,?_⟩
 have e:((#[rawInt s0,rawInt e0]:Array Value).map reRawOf).getD 0 (-1)=s0:=by simp[reRawOf,rawInt]
 show Q (.int (((#[rawInt s0,rawInt e0]:Array Value).map reRawOf).getD 0 (-1)) tk) _
 rw[e]
 exact h
end
section
variable {prog:Program}{w:World}{A:Around}
theorem R9{a tp:Addr}{st pat:Value}{p l i s0 e0:Int}{n:Nat}{s:Shared}{Q:Value→Shared→Prop}{Ev:Value→Shared→Prop}(hx:s.heap.get? a=some (DF st pat p l i tp))(ht:s.heap.get? tp=some (seqObj true [rawInt s0,rawInt e0] n))
  (h:Q (.ref s.heap.objs.size) {s with heap:=s.heap.push (seqObj true [.int s0 s.toks,.int e0 (s.toks+1)] 0),toks:=s.toks+1+1}):
  wpAny (model prog w) A (Builtin.«re.Match.span» ⟨[.ref a],[]⟩) (fun fin s'=>∃v,fin=.done (.ret v)∧Q v s') Ev s:=by
 obtain⟨hp,g,d,tk,os⟩:=s
 unfold Builtin.«re.Match.span» reOneGroup newTuple
 repeat (any_goals (first |assumption |wp_step))
 refine⟨_,rfl,?_⟩
 have e:((#[rawInt s0,rawInt e0]:Array Value).map reRawOf).getD 0 (-1)=s0:=by simp[reRawOf,rawInt]
 have e':((#[rawInt s0,rawInt e0]:Array Value).map reRawOf).getD 1 (-1)=e0:=by simp[reRawOf,rawInt]
 show Q _ {heap:=hp.push (seqObj true [.int (((#[rawInt s0,rawInt e0]:Array Value).map reRawOf).getD 0 (-1)) tk,.int (((#[rawInt s0,rawInt e0]:Array Value).map reRawOf).getD 1 (-1)) (tk+1)] 0),gens:=g,drawn:=d,toks:=tk+1+1,os:=os}
 rw[e,e']
 exact h
end
section
variable {c:Cx}{S:Sx}
theorem ay{w:Val}(h:I4 w=true):∃p e,w=.mt p e:=by
 induction w using Val.casesOn with
 |mt p e=>exact⟨p,e,rfl⟩
 |_=>exact nomatch h
theorem Rj{n:Str}{id:String}{b:Builtin}{sem:Val→Option Val}(slot:Slot "re.Match" n id)(ty:typeOf (.builtin id)=pure (.type "method_descriptor"))(hb:entryFor table id=some b)(ha:∀a,argsOk id ⟨[a],[]⟩)
  (g:Nat→Nat→Val) (hs:∀p e,sem (.mt p e)=some (g p e))
  (op:∀{f:Fx} {A:Around} {R:Rec} {σ:St} {a tp:Addr} {st pat:Value} {p l i:Int} {s0 e0:Nat} {n:Nat} {s:Shared} {Q:Value→Shared→Prop} {Ev:Value→Shared→Prop},s.heap.get? a=some (DF st pat p l i tp)→s.heap.get? tp=some (seqObj true [rawInt s0,rawInt e0] n)→Al c f R σ s.heap→
   (∀R' rv s',R.le R'→Ar s s'→Al c f R' σ s'.heap→c.V R' (g s0 e0) rv→Q rv s')→wpAny (model c.prog c.w) A (b ⟨[.ref a],[]⟩) (fun fin s'=>∃v,fin=.done (.ret v)∧Q v s') Ev s):
  Bc c S n I4 (fun |x,[]=>sem x |_,_=>none):=by
 intro d f A X R σ s a apos pos o xs Ev Q hbx hp hl hl1 h
 refine Bq hbx hp hl hl1 (zZ h (fun ov s₁ h₁ pl=>?_) fun _ _ x=>x)
 refine AR h₁ ?_;clear h₁;intro R₁ σ₁ w a₁ hw hat h₁
 refine Aq (ay hat) fun p e ew=>?_
 rw[ew]at hw h₁
 refine eW hw.inv fun ad tp st pat hh=>eX hh fun pp l i nn er hz ht=>?_
 rw[er]
 refine Aq a₁.r fun m led r=>?_
 have hT:s₁.TypeIs (.ref ad) "re.Match":=⟨_,r.get hz,rfl⟩
 have fin:∀vs s₂,(∃R₂ σ₂ ws,R₁.le R₂∧c.Vs R₂ ws vs∧After c S d f A X ((fun |x,[]=>sem x |_,_=>none:Val→List Val→Option Val) (.mt p e) ws) Q R₂ σ₂ s₂)→wpAny (model c.prog c.w) A (call (.builtin id) ([.ref ad]++vs)) Q Ev s₂:=fun vs s₂ h=>
  CS h fun R₂ σ₂ ws le hvs h=>BM h fun v hv a₂ hq=>by
   refine Aq a₂.r fun m₂ led₂ r₂=>?_
   induction ws using zi with
   |nil=>
    have ev:g p e=v:=ze ((hs p e).symm.trans hv)
    rw[hvs.Fu]
    have hz₂:=r₂.get (Cx.Z.mono le _ _ hz)
    exact JM slot ⟨_,hz₂,rfl⟩ hb (op hz₂ (r₂.get (Cx.Z.mono le _ _ ht)) ⟨m₂,led₂,r₂⟩ (ev▸hq)) (ha _)
   |cons _ _=>exact nomatch hv
 refine getMethod_builtin hT RC slot ty (fun a' e'=>by cases e';exact⟨_,r.get hz,rfl⟩) ?_
 induction xs using zi with
 |nil=>exact fun Γ q hΓ=>(PyProof.Rows.callWith_method0 (fin [] s₁ (h₁ Γ q hΓ))) Γ q hΓ
 |cons x xs=>
  have hp':=zz.mp (jP.symm.trans hp)
  exact jQ (zZ h₁ fin fun _ _ x=>x) (Aa hp'.1) (Aw hp'.2)
theorem TX{rx:Rx}:Bc c S "end" I4 (fun |x,[]=>Bw rx .mend x |_,_=>none):=
 Rj (sem:=Bw rx .mend) Sf Y9 OB PP (fun _ e=>.int (.ofNat e)) (fun _ _=>rfl) fun h1 h2 r hq=>Uy h1 h2 (hq _ _ _ (.refl _) (An (zV _)) r (.int _ _))
theorem OX{rx:Rx}:Bc c S "start" I4 (fun |x,[]=>Bw rx .mstart x |_,_=>none):=
 Rj (sem:=Bw rx .mstart) MV SG K8 Mg (fun p _=>.int (.ofNat p)) (fun _ _=>rfl) fun h1 h2 r hq=>O7 h1 h2 (hq _ _ _ (.refl _) (An (zV _)) r (.int _ _))
theorem Ri{rx:Rx}:Bc c S "span" I4 (fun |x,[]=>Bw rx .mspan x |_,_=>none):=
 Rj (sem:=Bw rx .mspan) Pb U7 Mo Ot (fun p e=>.seq true [.int (.ofNat p),.int (.ofNat e)]) (fun _ _=>rfl) fun{f A R σ a tp st pat p l i s0 e0 n s Q Ev} h1 h2 r hq=>R9 h1 h2 (by
  refine Aq r fun m led r=>?_
  refine Gw (r.frozen (r.F.push (seqObj true [.int (s0:Int) s.toks,.int (e0:Int) (s.toks+1)] 0)) (JZ r.F r.N _) (fun p hp=>jv (r.N p hp).1)) fun R1 le1 r1 z1 _ _=>?_
  refine hq R1 _ _ le1 (An (zl (zV _) (zV _))) ⟨_,_,r1⟩ ?_
  exact .seq (vs:=[.int (s0:Int) s.toks,.int (e0:Int) (s.toks+1)]) (n:=0) ⟨_,.inr z1,rfl,rfl⟩ (show 2≤Az by decide) (.cons (.int _ _) (.cons (.int _ _) .nil)))
end
end
section
open PySem PySem.W PySem.Calls PyProof.Rows Builtin Builtin.Str
section
variable {prog:Program}{w:World}{A:Around}
noncomputable def BZ(w c:Nat)(st:Array Nat×Nat):Array Nat×Nat:=
 if(c==9)=true then(st.1++Array.replicate (w - st.2 % w) 32,st.2+(w - st.2 % w))else(st.1.push c,if(c==10 || c==13)=true then 0 else st.2+1)
theorem M8{α:Type}{M:Model}{Q:α→Shared→Prop}{Ev:Value→Shared→Prop}{s:Shared}{b:Bool}{x y:Sem α}(h:b=false)(k:wpAny M A y Q Ev s):wpAny M A (if b=true then x else y) Q Ev s:=by
 rw[h];exact k
theorem Wb{α:Type}{M:Model}{Q:α→Shared→Prop}{Ev:Value→Shared→Prop}{s:Shared}{b:Bool}{x y:Sem α}(h:b=true)(k:wpAny M A x Q Ev s):wpAny M A (if b=true then x else y) Q Ev s:=by
 rw[h];exact k
theorem Wp(c k:Nat):(c==k)=Nat.beq c k:=(Xy c k).symm
theorem expLoop{M:Model}{wd:Nat}{s:Shared}{Ev:Value→Shared→Prop}{f:Nat→Array Nat×Nat→Sem (ForInStep (Array Nat×Nat))}
  (hf:∀c st (P:ForInStep (Array Nat×Nat)→Shared→Prop),st.1.size+wd≤sizeLine→P (.yield (BZ wd c st)) s→wpAny M A (f c st) P Ev s) (h1:1≤wd):
  ∀(l:List Nat) (st:Array Nat×Nat) (P:Array Nat×Nat→Shared→Prop),st.1.size+wd*l.length+wd≤sizeLine→P (l.foldl (fun st c=>BZ wd c st) st) s→wpAny M A (forIn l st f) P Ev s:=by
 have hs:∀c st,(BZ wd c st).1.size≤st.1.size+wd:=by
  intro c st
  unfold BZ
  by_cases h:(c==9)=true
  ·rw[zX h];show(st.1++Array.replicate _ 32).size≤_
   rw[Array.size_append,Array.size_replicate];exact zS (jJ _ _) _
  ·rw[zP h];show(st.1.push c).size≤_
   rw[Array.size_push];exact zS h1 _
 intro l
 induction l with
 |nil=>intro st P _ h;rw[List.forIn_nil];exact zG h
 |cons c l ih=>
  intro st P hb h
  rw[zy,J7,jy (wd*l.length) wd,←zT]at hb
  rw[Jl]
  refine zn (hf c st _ (zl (zA _ _) (zl (zA _ _) hb)) (ih _ P (zl (Nat.add_le_add_right (Nat.add_le_add_right (hs c st) _) _) hb) h))
theorem Qp(wd:Nat)(l:List Nat):∀(st:Array Nat×Nat),(l.foldl (fun st c=>BZ wd c st) st).1.toList=st.1.toList++expand wd st.2 l:=by
 induction l with
 |nil=>exact fun st=>(zL _).symm
 |cons c l ih=>
  intro st
  rw[qb,ih]
  show(BZ wd c st).1.toList++expand wd (BZ wd c st).2 l=st.1.toList++cond (Nat.beq c 9) _ _
  unfold BZ
  rw[Wp c 9,Wp c 10,Wp c 13]
  induction Nat.beq c 9 using za with
  |true=>
   show(st.1++Array.replicate (wd - st.2 % wd) 32).toList++_=_
   rw[JL,Array.toList_replicate,zk];rfl
  |false=>
   show(st.1.push c).toList++_=_
   rw[Array.toList_push,zk]
   cases(Nat.beq c 10 || Nat.beq c 13) <;>rfl
theorem Lc(wd:Nat)(l:List Nat):∀(col:Nat),9∉l→expand wd col l=l:=by
 induction l with
 |nil=>exact fun _ _=>rfl
 |cons c l ih=>
  intro col h
  show cond (Nat.beq c 9) _ _=_
  rw[Xy,zJ (show¬c=9 from fun e=>h (by rw[e];exact .head _))]
  exact zB (c::·) (ih _ fun e=>h (.tail _ e))
theorem GO(wd:Nat)(h1:1≤wd)(l:List Nat):∀(col:Nat),(expand wd col l).length≤wd*l.length:=by
 induction l with
 |nil=>exact fun _=>zH _
 |cons c l ih=>
  intro col
  show(cond (Nat.beq c 9) _ _:Txt).length≤wd*(l.length+1)
  rw[J7]
  induction Nat.beq c 9 using za with
  |true=>
   show(List.replicate (wd - col % wd) 32++_).length≤_
   rw[zd,jN,jy]
   exact Nat.add_le_add (ih _) (jJ _ _)
  |false=>exact Nat.add_le_add (ih _) h1
theorem MT{t:Txt}{tk u:Tok}{k:Nat}{s:Shared}{Q:Value→Shared→Prop}{Ev:Value→Shared→Prop}(hw:k+1≤1000)(hl:t.length≤16000)
  (h:∀tk' v,v=.str ⟨(expand (k+1) 0 t).toArray⟩ tk'→∀n,Q v {s with toks:=n}):
  wpAny (model prog w) A (Builtin.«str.expandtabs» ⟨[.str ⟨t.toArray⟩ tk,.int (.ofNat (k+1)) u],[]⟩) (fun fin s'=>∃v,fin=.done (.ret v)∧Q v s') Ev s:=by
 obtain⟨hp,g,d,tks,os⟩:=s
 unfold Builtin.«str.expandtabs»
 repeat (any_goals (first |assumption |wp_step))
 have hov:(decide (Int.ofNat (k+1) < -2 ^ 31) || decide (Int.ofNat (k+1)≥2 ^ 31))=false:=by
  rw[jS]
  have e:Int.ofNat (k+1)=((k+1:Nat):Int):=rfl
  rw[e]
  exact⟨zJ (by lia),zJ (by lia)⟩
 refine M8 hov ?_
 by_cases h9:(9:Nat)∈t
 ·refine M8 (by rw[List.contains_toArray,List.contains_iff_mem.mpr h9];rfl) ?_
  show wpAny _ _ (forIn t.toArray ((#[]:Array Nat),0) _ >>=_) _ _ _
  rw[List.forIn_toArray]
  have hb:(k+1)*t.length≤16000000:=Nat.mul_le_mul hw hl
  have hz:=sizeLine_eq
  refine zn (expLoop (wd:=k+1) (fun c st P hb hP=>?_) (Jx 1 k) t (#[],0) _ ?_ ?_)
  ·unfold BZ at hP
   induction hc9:c==9 using za with
   |true=>
    rw[hc9]at hP
    refine Wb rfl ?_
    have hpos:Int.ofNat (k+1) >0:=Int.natCast_pos.mpr (jl _)
    rw[zX hpos]
    refine M8 (zJ (Nat.not_lt.mpr (zl (zS (jJ _ _) _) hb))) ?_
    exact zG hP
   |false=>
    rw[hc9]at hP
    refine M8 rfl ?_
    exact zG hP
  ·show 0+(k+1)*t.length+(k+1)≤sizeLine
   rw[hz];lia
  ·have ho:(t.foldl (fun st c=>BZ (k+1) c st) ((#[]:Array Nat),0)).1=(expand (k+1) 0 t).toArray:=Array.toList_inj.mp (Qp (k+1) t (#[],0))
   have hlen:=GO (k+1) (Jx 1 k) t 0
   show wpAny _ _ (retStr ⟨(t.foldl (fun st c=>BZ (k+1) c st) ((#[]:Array Nat),0)).1⟩) _ _ _
   rw[ho]
   refine zn (wpAny_mkStr (zG ⟨_,rfl,h _ _ rfl _⟩) ?_)
   rw[Bh,hz];exact zl hlen (zl hb (by decide))
 ·refine Wb (by rw[List.contains_toArray];induction q:t.contains 9 using za with |false=>rfl |true=>exact absurd (List.contains_iff_mem.mp q) h9) ?_
  refine zn (qe ?_)
  repeat (any_goals (first |assumption |wp_step))
  exact⟨_,rfl,h tk _ (by rw[Lc _ _ _ h9]) tks⟩
end
section
variable {c:Cx}{S:Sx}
theorem Mu{rx:Rx}{t:Txt}{y v:Val}(h:AG rx .expand (.str t) y=some v):∃k,y=.int (.ofNat (k+1))∧k+1≤1000∧t.length≤16000∧v=.str (expand (k+1) 0 t):=by
 induction y using Val.casesOn with
 |int i=>induction i using zW with
  |ofNat i=>induction i using zE with
   |zero=>exact nomatch h
   |succ k=>exact Ao (AU (b:=Nat.ble (k+1) 1000 && Nat.ble t.length 16000) h) fun q e=>⟨k,rfl,Df (Ad q).1,Df (Ad q).2,e.symm⟩
  |negSucc _=>exact nomatch h
 |_=>exact nomatch h
theorem Xq{F:Val→Val→Option Val}{x:Val}{ws:List Val}{v:Val}(h:(match x,ws with |x,[y]=>F x y |_,_=>none)=some v):∃y,ws=[y]∧F x y=some v:=by
 induction ws using zi with
 |nil=>exact nomatch h
 |cons y ws=>induction ws using zi with
  |nil=>exact⟨y,rfl,h⟩
  |cons _ _=>exact nomatch h
theorem OW{rx:Rx}:Bc c S "expandtabs" BC (fun |x,[y]=>AG rx .expand x y |_,_=>none):=by
 refine NR (id:="str.expandtabs") PySem.F.slot_str_expandtabs PySem.F.type_str_expandtabs ?_
 intro f A R σ s t tk ws vs v hh r hl hv h
 refine Ab (Xq (F:=AG rx .expand) (x:=.str t) (ws:=ws) (v:=v) h) fun y ew h=>?_
 refine L8 (Mu h) fun k ey hk ht ev=>?_
 rw[ew,ey]at hv
 refine Ba hv.Cc fun a us ea h1 hv=>?_
 refine zg h1.inv fun t1 e1=>?_
 rw[ea,hv.Fu,e1,ev]
 refine AL.plain r fun Ev Q hq=>JM PySem.F.slot_str_expandtabs (Jr _ _ _) PySem.F.entry_str_expandtabs (MT hk ht fun tk' v hv n=>?_) (PySem.F.args_str_expandtabs_2 _ _)
 rw[hv]
 exact hq _ n (.str _ _ (zl (GO (k+1) (Jx 1 k) t 0) (zl (Nat.mul_le_mul hk ht) (by rw[BO];decide))))
end
end
section
open PySem PySem.W PySem.Calls PyProof.Rows Builtin Builtin.Str
noncomputable def TF(e:DictEntry):Bool:=match e.key with | .int k _=>e.hash==hashInt k |_=>false
noncomputable def Zc(es:List DictEntry)(n:Nat):Bool:=match es.find? (fun e=>Value.isInt (.ofNat n) e.key)with
 |some e=>(match e.val with | .int v _=>v==.ofNat (CY n) |_=>false)
 |none=>false
noncomputable def allB{α:Type}(p:α→Bool):List α→Bool
 |[]=>true
 |x::r=>cond (p x) (allB p r) false
theorem Nv{b x:Bool}(h:cond b x false=true):b=true∧x=true:=by
 induction b using za with
 |true=>exact⟨rfl,h⟩
 |false=>exact ft h
theorem KP{α:Type}{p:α→Bool}{l:List α}(h:allB p l=true):∀x∈l,p x=true:=by
 induction l with
 |nil=>exact fun _ h=>nomatch h
 |cons y r ih=>
  intro x hx
  rcases z5.mp hx with e |hx
  ·rw[e];exact(Nv h).1
  ·exact ih (Nv h).2 x hx
noncomputable def upTo:Nat→Nat→List Nat
 |_,0=>[]
 |a,n+1=>a::upTo (a+1) n
theorem SJ{n:Nat}:∀{a x:Nat},a≤x→x < a+n→x∈upTo a n:=by
 induction n with
 |zero=>exact fun h1 h2=>absurd h2 (Nat.not_lt_of_le h1)
 |succ n ih=>
  intro a x h1 h2
  rcases Nat.eq_or_lt_of_le h1 with e |h
  ·rw[e];exact .head _
  ·exact .tail _ (ih h (by rw[J6];exact h2))
structure Mb(K:Frag)(pm:Addr):Prop where
 at_:∃C dd es n sl,K.lookup pm=some ⟨.ref C,dd,.dict es n,sl⟩∧findIn K (.ref C) "__getitem__"=some (some (.builtin "dict.__getitem__"))∧noSeq K C=true∧subIn K (.ref C) (.type "dict")=some true∧
  allB TF es.toList=true∧allB (Zc es.toList) (upTo 0 128)=true
section
variable {prog:Program}{w:World}{A:Around}{s:Shared}{Ev:Value→Shared→Prop}
theorem Qc{C:Value}{x y:Value}(ty:Looks (model prog w) s.heap (typeOf x) C)(sub:Looks (model prog w) s.heap (isSubtype C (.type "dict")) true)(ha:argsOk "dict.__getitem__" ⟨[x,y],[]⟩){B:Around}{Q':Unit→Shared→Prop}(hq:Q' () s):wpAny (model prog w) B (checkBuiltinCall "dict.__getitem__" ⟨[x,y],[]⟩) Q' Ev s:=by
 have hkd:builtinKind "dict.__getitem__"=some .slot∨builtinKind "dict.__getitem__"=some .method:=by decide+kernel
 have hsp:splitId "dict.__getitem__"=some ("dict","__getitem__"):=by decide+kernel
 rcases hkd with hkd |hkd <;>
 ·simp only[checkBuiltinCall,hkd,hsp]
  unfold isInstance
  refine zn (zn (ty.here (sub.here ?_)))
  simp only[Bool.not_true,JU,if_false]
  induction hsig:Manifest.signature? "dict.__getitem__" using zh with
  |none=>exact zG hq
  |some sig=>
   simp only[argsOk,hsig]at ha
   exact J8 ha hq
theorem TG{e:DictEntry}(h:TF e=true):∃k t,e.key=.int k t∧e.hash=hashInt k:=by
 unfold TF at h
 cases q:e.key with
 |int k t=>rw[q]at h;exact⟨k,t,rfl,eq_of_beq h⟩
 |_=>rw[q]at h;exact ft h
theorem iQ{o:Option DictEntry}{n:Nat}(h:(match o with |some e=>(match e.val with | .int v _=>v==.ofNat (CY n) |_=>false) |none=>false)=true):∃u,o.map (·.val)=some (.int (.ofNat (CY n)) u):=by
 induction o using zh with
 |none=>exact ft h
 |some e=>
  obtain⟨_,_,v⟩:=e
  cases v with
  |int v t=>exact⟨t,zB (fun v=>some (Value.int v t)) (eq_of_beq h)⟩
  |_=>exact ft h
theorem Va{es:Array DictEntry}{n:Nat}(h:Zc es.toList n=true):∃u,findBy Value.isInt es (.ofNat n)=some (.int (.ofNat (CY n)) u):=by
 refine zg (iQ h) fun u e=>?_
 refine⟨u,?_⟩
 unfold findBy
 obtain⟨l⟩:=es
 rw[List.find?_toArray]
 exact e
theorem ML{K:Frag}{pm:Addr}(P:Mb K pm)(X:K.In s.heap){n:Nat}{u:Tok}(hn:n < 128){Q:Value→Shared→Prop}
  (h:∀u',Q (.int (.ofNat (CY n)) u') {s with toks:=s.toks+1}):wpAny (model prog w) A (getItem (.ref pm) (.int (.ofNat n) u)) Q Ev s:=by
 obtain⟨C,dd,es,ep,sl,hl,hf,hq,hsub,hk,hv⟩:=P.at_
 have ho:=X _ _ hl
 have ty:Looks (model prog w) s.heap (typeOf (.ref pm)) (.ref C):=(Looks.ld ho).andThen .now
 unfold getItem sequenceKey
 refine jj (zn (zn (ty.here ?_)))
 refine zn ((anyM_none X hq).here ?_)
 rw[zX (show(!false)=true from rfl)]
 refine zG (zn ?_)
 refine zn (zn (ty.here ((looks_findIn X hf).here (jj (zn (J8 (slot_dict_getitem.bind _) (zn ?_)))))))
 refine JN (codeAny_call_builtin slot_dict_getitem.plain entry_dict_getitem (Qc ty (looks_subIn X hsub) (args_dict_getitem (.ref pm) (.int (.ofNat n) u)) ?_))
 show wpAny _ _ (dictGet pm (.int (.ofNat n) u) >>=_) _ _ s
 refine zn ?_
 unfold dictGet
 refine zg (Va (KP hv n (SJ (zH _) (by rw[jD];exact hn)))) fun u' hfb=>?_
 rw[findBy_of_findIdx?]at hfb
 refine jj (zn ((intKind prog w).pyHash (intKind_is prog w (.ofNat n) u) (zn (wpAny_dictFind_of (knd:=intKind prog w) (s:={s with toks:=s.toks+1}) (intKind_is prog w (.ofNat n) u) ho rfl (fun e he=>?_) ?_))))
 ·refine A6 (TG (KP hk e (Array.mem_toList_iff.mpr he))) fun k t e1 e2=>?_
  exact⟨k,by rw[e1];exact intKind_is prog w k t,e2⟩
 ·show wpAny _ _ (match es.findIdx? (fun e=>Value.isInt (.ofNat n) e.key)with |some i=>_ |none=>_) _ _ _
  induction hi:es.findIdx? fun e=>Value.isInt (.ofNat n) e.key using zh with
  |none=>rw[hi]at hfb;exact nz hfb
  |some i=>
   rw[hi]at hfb
   refine zn (wpAny_dictEntries (s:={s with toks:=s.toks+1}) ho rfl (zG ?_))
   rw[show es[i]?.map (·.val)=some (.int (.ofNat (CY n)) u')from hfb]
   exact zG (zG (zG (h u')))
end
end
section
open PySem PySem.W PySem.Calls PyProof.Rows Builtin Builtin.Str
section
variable {prog:Program}{w:World}{A:Around}{s:Shared}{Ev:Value→Shared→Prop}
theorem Sv:∀n,n < 128→CY n < 128:=by decide
theorem Uj{K:Frag}{pm:Addr}(P:Mb K pm)(X:K.In s.heap){n:Nat}(hn:n < 128){Q:Mapped→Shared→Prop}
  (h:∀k,Q (.char (CY n)) {s with toks:=k}):wpAny (model prog w) A (tableLookup (.ref pm) n) Q Ev s:=by
 unfold tableLookup
 refine zn (wpAny_attempt (zn (wpAny_mkInt (ML (s:={s with toks:=s.toks+1}) P X hn fun u'=>?_))))
 have hl:=Sv n hn
 have hd:(decide (Int.ofNat (CY n) < 0) || decide (Int.ofNat (CY n) >0x10FFFF))=false:=by
  have e:Int.ofNat (CY n)=((CY n:Nat):Int):=rfl
  rw[jS,e]
  exact⟨zJ (by lia),zJ (by lia)⟩
 refine zn (m:=asInt? (.int (.ofNat (CY n)) u')) (zG ?_)
 show wpAny _ _ (if(decide (Int.ofNat (CY n) < 0) || decide (Int.ofNat (CY n) >0x10FFFF))=true then _ else _) _ _ _
 rw[hd]
 simp only[JU,if_false]
 exact zG (h _)
noncomputable abbrev Iz:=List Str×Nat×Bool×List (Nat×Option Nat)×Bool
noncomputable def PB(done:Txt):List Str:=(done.map fun c=>(⟨#[CY c]⟩:Str)).reverse
noncomputable def UF(kn:List (Nat×Option Nat)):Prop:=∀c a,kn.lookup c=some a→a=some (CY c)
noncomputable def em(done:Txt)(kn:List (Nat×Option Nat)):Iz:=(PB done,done.length,true,kn,false)
theorem Sh(done:Txt)(c:Nat):PB (done++[c])=⟨#[CY c]⟩::PB done:=by
 unfold PB;rw[jm,List.reverse_append];rfl
theorem Si(done:Txt)(c:Nat)(kn:List (Nat×Option Nat)):em (done++[c]) kn=(⟨#[CY c]⟩::PB done,done.length+1,true,kn,false):=by
 unfold em;rw[Sh,zd];rfl
theorem Yx{M:Model}{f:Nat→Iz→Sem (ForInStep Iz)}
  (hf:∀done c kn n (P:ForInStep Iz→Shared→Prop),c < 128→done.length≤Az→UF kn→(∀kn' n',UF kn'→P (.yield (⟨#[CY c]⟩::PB done,done.length+1,true,kn',false)) {s with toks:=n'})→wpAny M A (f c (PB done,done.length,true,kn,false)) P Ev {s with toks:=n}):
  ∀(l done:Txt) (kn:List (Nat×Option Nat)) (n:Nat) (P:Iz→Shared→Prop),AC 128 l=true→done.length+l.length≤Az→UF kn→(∀kn' n',UF kn'→P (em (done++l) kn') {s with toks:=n'})→wpAny M A (forIn l (em done kn) f) P Ev {s with toks:=n}:=by
 intro l
 induction l with
 |nil=>
  intro done kn n P _ _ I h
  rw[List.forIn_nil]
  rw[zL]at h
  exact zG (h _ _ I)
 |cons c l ih=>
  intro done kn n P hl hn I h
  rw[Jl]
  rw[zy]at hn
  refine Ao (Nv hl) fun hc hl=>?_
  refine zn (hf done c kn n _ (DG hc) (by lia) I fun kn' n' I'=>?_)
  rw[←Si]
  refine ih (done++[c]) kn' n' P hl (by rw[zd,List.length_singleton];lia) I' ?_
  rw[zk,List.singleton_append]
  exact h
theorem Od:∀(l:Txt) (a:Array Nat),(l.map fun c=>(⟨#[CY c]⟩:Str)).foldl (fun acc p=>acc++p.cps) a=a++(l.map CY).toArray
 |[],a=>by simp
 |c::l,a=>by
  rw[JY,qb,Od l]
  simp
theorem Os{n:Nat}(l:Txt)(h:AC n l=true):(l.all fun x=>decide (x < n))=true:=by
 induction l with
 |nil=>rfl
 |cons c l ih=>
  refine Ao (Nv h) fun q h=>?_
  rw[jP,js (DG q),ih h];rfl
theorem UG{kn:List (Nat×Option Nat)}{c:Nat}(I:UF kn):UF ((c,some (CY c))::kn):=by
 intro c' a' h
 rw[jg]at h
 induction e:c'==c using za with
 |true=>rw[e]at h;rw[eq_of_beq e];exact(ze h).symm
 |false=>rw[e]at h;exact I c' a' h
theorem iE{M:Model}{f:Nat→Iz→Sem (ForInStep Iz)}{l:Txt}{k:Nat}{b:Bool}{P:Iz→Shared→Prop}
  (hf:∀done c kn n (P:ForInStep Iz→Shared→Prop),c < 128→done.length≤Az→UF kn→(∀kn' n',UF kn'→P (.yield (⟨#[CY c]⟩::PB done,done.length+1,true,kn',false)) {s with toks:=n'})→wpAny M A (f c (PB done,done.length,true,kn,false)) P Ev {s with toks:=n})
  (ht:AC 128 l=true) (hl:l.length≤Az) (hb:b=true) (h:∀kn' n',UF kn'→P (em l kn') {s with toks:=n'}):wpAny M A (forIn l.toArray ([],0,b,[],false) f) P Ev {s with toks:=k}:=by
 rw[List.forIn_toArray,hb]
 exact Yx hf l [] [] k P ht (by rw[JH,jD];exact hl) (fun _ _ h=>nomatch h) h
theorem LQ{K:Frag}{pm:Addr}(P:Mb K pm)(X:K.In s.heap){t:Txt}{tk:Tok}{Q:Value→Shared→Prop}(ht:AC 128 t=true)(hl:t.length≤Az)
  (h:∀tk' v,v=.str ⟨(t.map CY).toArray⟩ tk'→∀n,Q v {s with toks:=n}):
  wpAny (model prog w) A (Builtin.«str.translate» ⟨[.str ⟨t.toArray⟩ tk,.ref pm],[]⟩) (fun fin s'=>∃v,fin=.done (.ret v)∧Q v s') Ev s:=by
 obtain⟨hp,g,d,tks,os⟩:=s
 unfold Builtin.«str.translate»
 repeat (any_goals (first |assumption |wp_step))
 have hz:=sizeLine_eq
 have hL:=A8
 induction h0:(⟨t.toArray⟩:Str).length==0 using za with
 |true=>
  have e:t=[]:=Jj (eq_of_beq h0)
  refine zn (qe ?_)
  refine zn (m:=strUnchanged _ _) (zG ?_)
  exact zG ⟨_,rfl,h tk _ (by rw[e];rfl) tks⟩
 |false=>
  refine M8 rfl ?_
  refine zn (iE (s:=⟨hp,g,d,tks,os⟩) (k:=tks) ?_ ht hl (List.all_toArray.trans (Os t ht)) ?_)
  ·intro done c kn n P' hc hdn hk hP
   refine M8 (zJ (by lia)) ?_
   induction q:kn.lookup c using zh with
   |some a=>
    rw[hk c a q]
    exact zG (hP kn n hk)
   |none=>
    refine zn (Uj P (by exact X) hc fun k=>?_)
    simp only[Sv c hc,if_true]
    exact zG (hP _ k (UG hk))
  ·intro kn n' I
   show wpAny _ _ (if tooLong t.length=true then _ else _) _ _ _
   have htl:tooLong t.length=false:=by
    unfold tooLong
    exact zJ (by lia)
   refine M8 htl ?_
   have e:List.foldl (fun acc (p:Str)=>acc++p.cps) #[] (PB t).reverse=(t.map CY).toArray:=by
    unfold PB
    rw[List.reverse_reverse,Od,Array.empty_append]
   show wpAny _ _ (retStr ⟨List.foldl (fun acc (p:Str)=>acc++p.cps) #[] (PB t).reverse⟩) _ _ _
   rw[e]
   refine zn (wpAny_mkStr (zG ⟨_,rfl,h _ _ rfl _⟩) ?_)
   show(List.map CY t).toArray.size≤sizeLine
   rw[zY,z3];lia
end
end
section
open PySem PySem.W PySem.Calls PyProof.Rows Builtin Builtin.Str
section
variable {c:Cx}{S:Sx}
theorem IL{d:Nat}{f:Fx}{A:Around}{X:A7→St→Prop}{R:Rec}{σ:St}{s:Shared}(a:At c S d f A X R σ s){pm:Addr}(P:Mb c.K pm){t:Txt}{tk:Tok}(ht:AC 128 t=true)(hl:t.length≤Az):
  AL c f A R σ s (call (.builtin "str.translate") [.str ⟨t.toArray⟩ tk,.ref pm]) (.str (t.map CY)):=by
 refine AL.plain a.r fun E Q hq=>?_
 refine Aq a.r fun m led r=>?_
 refine JM PySem.F.slot_str_translate (Jr _ _ _) PySem.F.entry_str_translate (LQ P (a.G.X.keeps r.F.keep) ht hl fun tk' v hv n=>?_) (PySem.F.args_str_translate_2 _ _)
 subst hv
 exact hq _ n (.str _ _ (by rw[z3];exact hl))
theorem iZ{n trn:Str}{id:String}{sem:Val→Option Val}{x:PySem.Expr}{g:Value}{p q q':Pos}(slot:Slot "str" n id)(ty:typeOf (.builtin id)=pure (.type "method_descriptor"))(gl:KL c S trn g)(hb:CZ x)(hl:(q.endLine==p.line)=true)
  (dom:∀w v,sem w=some v→BC w=true)
  (op:∀{d:Nat} {f:Fx} {A:Around} {X:A7→St→Prop} {R:Rec} {σ:St} {s:Shared} {t:Txt} {tk:Tok} {v:Val},At c S d f A X R σ s→t.length≤Az→sem (.str t)=some v→AL c f A R σ s (call (.builtin id) [.str ⟨t.toArray⟩ tk,g]) v):
  EM c S x (.Call (.Attribute x n q) [.Name trn q'] [] p) sem:=by
 intro d f A X R σ s a Ev Q h
 refine Bq hb rfl (by show 1 < 25;decide) hl (zZ h (fun ov s₁ h₁ pl=>?_) fun _ _ x=>x)
 obtain⟨R₁,σ₁,w,hw,v,hv,a₁,hq⟩:=h₁
 have hat:=dom w v hv
 induction w using Val.casesOn with
 |str t=>
  cases hw with
  |of hw=>cases hw with
   |str _ tk hlen=>
    refine GM.of _ (Jr _ _ _) slot ty (fun _ h=>nomatch h) ?_
    have fin:wpAny (model c.prog c.w) A (call (.builtin id) ([.str ⟨t.toArray⟩ tk]++[g])) Q Ev s₁:=op a₁ hlen hv Ev Q fun R' rv s' le' sm r' hv'=>hq R' rv s' le' sm r' hv'
    have hargs:wpAny (model c.prog c.w) A (spliced (backTo p (starEach [.Name trn q'] f.env))) (fun vs s₂=>wpAny (model c.prog c.w) A (call (.builtin id) ([.str ⟨t.toArray⟩ tk]++vs)) Q Ev s₂) Ev s₁:=
     je (Er a₁ gl (jT fin)) (Aa rfl)
    exact jQ hargs (Aa rfl) (Aw rfl)
 |_=>cases hat
theorem Pr{rx:Rx}{pm:Addr}{x:PySem.Expr}{trn:Str}{p q q':Pos}(P:Mb c.K pm)(g:KL c S trn (.ref pm))(hb:CZ x)(hl:(q.endLine==p.line)=true):
  EM c S x (.Call (.Attribute x "translate" q) [.Name trn q'] [] p) (Bw rx .squeeze):=by
 refine iZ (id:="str.translate") PySem.F.slot_str_translate PySem.F.type_str_translate g hb hl ?_ ?_
 ·intro w v h
  induction w using Val.casesOn <;>first |rfl |cases h
 ·intro d f A X R σ s t tk v a hlen hv
  have hv:cond (AC 128 t) (some (Val.str (t.map CY))) none=some v:=hv
  induction q:AC 128 t using za with
  |false=>rw[q,z6]at hv;cases hv
  |true=>rw[q,jz]at hv;obtain rfl:=ze hv;exact IL a P q hlen
end
end
end Ak
section
open PySem PySem.W PySem.Calls PyProof.Rows
namespace Ak
section
section
variable {c:Cx}{f:Fx}{R:Rec}{σ:St}{h h':Heap}{m:Str→Option Value}{led:List (Addr×Obj)}
theorem Rel.S7(r:Rel c f R σ h m led){dx:Addr}{o:Obj}(F:Fr f.h₀ f.L h' m)(N:News f.h₀ f.L h' ((dx,o)::led))(hf:∀p∈led,p.1 < dx):
  R.le {R with ρ:=R.ρ++[dx]}∧Rel c f {R with ρ:=R.ρ++[dx]} ⟨σ.loc,σ.own,σ.self,σ.heap++[.taken]⟩ h' m ((dx,o)::led):=by
 have le:R.le {R with ρ:=R.ρ++[dx]}:=⟨⟨[dx],rfl⟩,⟨[],by simp⟩,fun _ h=>h,rfl,rfl⟩
 have old:∀(j:Nat) (fs:List (Option Val)),(σ.heap++[Ak.Cell.taken])[j]? =some (Ak.Cell.flds fs)→σ.heap[j]? =some (Ak.Cell.flds fs)∧(R.ρ++[dx])[j]? =R.ρ[j]? :=fun j fs hj=>by
  have hlt:j < σ.heap.length:=by
   apply jM
   intro hn
   rw[zU (by lia)]at hj
   induction q:j - σ.heap.length using zE with
   |zero=>rw[q]at hj;cases hj
   |succ k=>rw[q]at hj;cases hj
  rw[zM hlt]at hj
  exact⟨hj,zM (by rw[r.hlen];exact hlt)⟩
 have mut':∀b,Hr f {R with ρ:=R.ρ++[dx]} b→b=dx∨Hr f R b:=fun b hb=>by
  rcases hb with hb |hb
  ·rcases zF.mp hb with hb |hb
   ·exact .inr (.inl hb)
   ·exact .inl (zI.mp hb)
  ·exact .inr (.inr hb)
 refine⟨le,?_⟩
 refine{F:=F,N:=N,nd:=NS r.nd hf,slots:=fun k n v hk hv=>?_,clo:=fun n a' ha=>?_,self:=fun x dx hs=>?_,self0:=r.self0,ml:=fun b hb=>?_,hlen:=?_,cells:=fun j fs hj=>?_,oln:=r.oln,owns:=fun k xs' hk=>?_,zs:=fun p hp=>zC _ (r.zs p hp),ex:=fun p hp=>zC _ (r.ex p hp),D1:=?_,D2:=fun x dx hs=>?_,D3:=fun b hb p hp=>?_,D4:=r.D4,B:=r.B}
 ·exact Cz (fun a o a1 a2=>zC _ a2) (fun _ b=>b.up le) (r.slots k n v hk hv)
 ·refine A6 (r.clo n a' ha) fun o' v a1 a2=>?_
  exact⟨o',v,zC _ a1,a2⟩
 ·obtain⟨a1,a2,es,n,a3,a4⟩:=r.self x dx hs
  exact⟨a1,Cx.Z.mono le _ _ a2,es,n,zC _ a3,a4.up le⟩
 ·rcases mut' b hb with e |hb
  ·subst e;exact .head _
  ·exact zC _ (r.ml b hb)
 ·show(R.ρ++[dx]).length=(σ.heap++[Ak.Cell.taken]).length
  rw[zd,zd,r.hlen];rfl
 ·refine Ao (old j fs hj) fun h1 h2=>?_
  refine CS (r.cells j fs h1) fun a' es n a1 a2 a3=>?_
  exact⟨a',es,n,h2.trans a1,zC _ a2,a3.up le⟩
 ·refine AR (r.owns k xs' hk) fun a' vs n a1 a2 a3 a4=>?_
  exact⟨a',vs,n,a1,zC _ a2,a3,Vs.up le a4⟩
 ·show(R.ρ++[dx]++R.ω++f.cl.map (·.2)).Nodup
  rw[zk,zk]
  refine(List.Perm.nodup_iff (List.perm_middle (a:=dx) (l₁:=R.ρ) (l₂:=R.ω++f.cl.map (·.2)))).mpr (jU.mpr ⟨fun hm=>?_,by rw[←zk];exact r.D1⟩)
  have hM:Hr f R dx:=by
   rcases zF.mp hm with hm |hm
   ·exact .inl hm
   ·rcases zF.mp hm with hm |hm
    ·exact .inr (.inl hm)
    ·exact .inr (.inr (.inl hm))
  exact r.fresh hf dx hM rfl
 ·refine Bi (r.D2 x dx hs) fun d1 d2 d3=>?_
  exact⟨d1,d2,fun j fs hj=>by
   refine Ao (old j fs hj) fun h1 h2=>?_
   show(R.ρ++[_])[j]? ≠_
   rw[h2];exact d3 j fs h1⟩
 ·rcases mut' b hb with e |hb
  ·subst e
   intro e'
   have hm:p∈led:=by
    rcases zF.mp hp with hp |hp
    ·exact r.zs p hp
    ·exact r.ex p hp
   exact absurd (hf p hm) (by rw[e'];exact Jm _)
  ·exact r.D3 b hb p hp
end
theorem HJ(A:Around)(C:Addr)(rest:List Value)(kw:List (Str×Value)):Op A (A.under (.builtin "type.__call__" ⟨.ref C::rest,kw⟩)):=by
 refine⟨rfl,rfl,rfl,?_,?_⟩
 ·exact zS (by show 1≤4;decide) _
 ·exact zS (by show 1≤4;decide) _
section
variable {c:Cx}{C:Cfg}{d:Nat}{S:Sx}
theorem FA:∀n,BD (BK n)=BK n
 |0=>rfl
 |n+1=>by show none::BD (BK n)=none::BK n;rw[FA n]
theorem E8{α:Type}:∀n,(BK n:List (Option α)).length=n
 |0=>rfl
 |n+1=>by show(BK n:List (Option α)).length+1=n+1;rw[E8 n]
theorem Lf{R:Rec}:Aj c R (BD (BK c.attrs.length)) []:=
 ⟨fun k n _=>by rw[FA,Fw];rfl,fun _ _=>rfl,zH _,by rw[FA,E8]⟩
theorem Rr{R:Rec}{h:Heap}{r:Val}{rv:Value}(e:Gy r=true)(y:VH c R h r rv):rv=.none:=by
 induction r using Val.casesOn with
 |none=>exact(y.v rfl).inv
 |_=>exact nomatch e
theorem Xz{n:Str}{fI:Addr}(hm:S.Ah=false)(g:KL c S n (.ref c.PC))(hk:keepIn c.K (.ref c.PC)=true)(hmk:makesIn c.K c.PC=true)(hi:findIn c.K (.ref c.PC) "__init__"=some (some (.ref fI)))(hf:isFn c.K (.ref fI)=true)
  (hfad:c.fad[C.init]? =some fI) (hmth:c.mth C.init=true) (hnf:C.nf=c.attrs.length) (HC:A4 c C d c.mth):PI c C d S n:=by
 intro f A X R σ s EP K npos pos x xs a hp har Ev Q xo hq
 rw[Au]
 refine zn (Er a g ?_)
 have fin:∀(vs:List Val) (σ₁:St) (R₁:Rec) (rvs:List Value) (s₁:Shared),R.le R₁→Ar s s₁→Al c f R₁ σ₁ s₁.heap→c.Vs R₁ vs rvs→
   C.call C.init (BK C.nf) vs (σ₁.heap++[.taken]) (fun r fs' h=>Br (Gy r) (K (.v (.obj σ₁.heap.length)) (σ₁.DI (h.set σ₁.heap.length (.flds fs')))) False) (fun x fs' h=>X x (σ₁.DI (h.set σ₁.heap.length (.flds fs'))))→
   wpAny (model c.prog c.w) A (call (.ref c.PC) rvs) Q Ev s₁:=fun vs σ₁ R₁ rvs s₁ le sm rx hvs hcall=>by
  have a₁:=a.up le sm rx
  refine Aq rx fun m led r=>?_
  have hsd:R₁.sd=none:=by
   have h:=a₁.Ah;rw[hm]at h
   revert h
   induction R₁.sd using zh with
   |none=>exact fun _=>rfl
   |some _=>exact nofun
  refine call_cls r.F a.G.X r.N hmk hi hf fun x dx h' F' N' hlt hxd=>?_
  refine Ao (r.S7 F' (fun p hp=>N' p (.tail _ hp)) hlt) fun le1 r1=>?_
  obtain⟨R2,le2,r2,z2,e1,e2⟩:=r1.frozen F' N' (fun p hp=>by
   rcases z5.mp hp with e |hp
   ·rw[e];exact hxd
   ·exact Nat.lt_trans (hlt p hp) hxd)
  have hρ:R2.ρ=R₁.ρ++[dx]:=e1
  have hz:c.Z R2 x (instObj c.PC dx):=.inr z2
  have le12:R₁.le R2:=le1.trans le2
  have hsd2:R2.sd=none:=le12.sd.trans hsd
  have hd:R2.ρ[σ₁.heap.length]? =some dx:=by
   rw[hρ,←r.hlen];simp
  rw[hnf]at hcall
  refine HC C.init (BK c.attrs.length) vs (σ₁.heap++[.taken]) _ _ fI hfad hcall (fun x fs h hx=>a.nv _ _ hx) f A _ R2 ⟨σ₁.loc,σ₁.own,σ₁.self,σ₁.heap++[.taken]⟩ {s₁ with heap:=h'} m _ (some (x,dx)) rvs ⟨a.G,HJ A c.PC rvs [],r2,Vs.up le12 hvs,by rw[hmth];rfl,
   fun x' dx' e=>by cases e;exact⟨hz,[],0,.tail _ (.head _),Lf⟩,(fun h=>nomatch h),
   fun j fs' hj=>⟨hj,fun x' dx' e hj'=>by
    cases e
    refine CS (r2.cells j fs' hj) fun a' es n b1 b2 b3=>?_
    have hj0:j=σ₁.heap.length:=Fv (GB r2.D1) hj' hd
    subst hj0
    rw[zU (zw _),jW]at hj
    cases hj⟩,rfl,fun x' dx' e=>by cases e;exact .inr (by rw[hρ];exact zj _ (.head _))⟩ _ fun r' fs' hh rv s' f' R' σ' m' led' lv hk sm' le' r₁ hlook hlr hfz hheap F N=>?_
  subst hheap
  refine Ao (BQ hk) fun hnone hk=>?_
  have hrv:=Rr hnone (B2 r₁ hlook hlr)
  have hsd':R'.sd=some (x,dx):=le'.sd
  refine Bi (r₁.self x dx hsd') fun _ _ h0=>A6 h0 fun es' n' y1 y2=>?_
  obtain⟨rn,len⟩:=r2.toRelL.leave (sd:=some (x,dx)) (fsl:=σ₁.self) (hp:=σ'.heap.set σ₁.heap.length (.flds fs')) le' r₁.toRelL (fun x' dx' e=>by cases e;exact .inr ⟨hsd2,Av hd⟩) (fun h=>absurd hsd2 h) (fun x dx es n e=>by rw[hsd2]at e;cases e) (fun _=>r.self0 hsd) (jV ..)
   (fun i fs hi=>by
    by_cases e:σ₁.heap.length=i
    ·subst e
     have hlt:σ₁.heap.length < σ'.heap.length:=by
      have:=(zu.mp hi).1
      rwa[jV]at this
     rw[Jk hlt]at hi
     cases hi
     refine .inr ⟨dx,es',n',?_,y1,C7 r₁.toRelL hfz y2,hsd2⟩
     refine zg le'.ρ fun t ht=>?_
     rw[ht]
     show(R2.ρ++t)[σ₁.heap.length]? =some dx
     rw[zM (zu.mp hd).1];exact hd
    ·rw[Js e]at hi
     exact .inl hi)
  refine⟨hrv,hq (.v (.obj σ₁.heap.length)) _ _ (.ref x) s' (le.trans (le12.trans len)) (sm.trans ⟨sm'.gens,sm'.drawn,sm'.os,sm'.tk⟩) hk ⟨m,led',rn.at_ F N⟩ (.v (.obj (Cx.Z.mono len _ _ hz) ?_))⟩
  refine zg len.ρ fun t ht=>?_
  rw[ht,zM (zu.mp hd).1];exact hd
 have hp':=hp
 rw[jP,jp]at hp'
 refine callWith_K a.G.X hk (har Ev _ xo fun vs σ₁ R₁ rvs s₁ le sm hk r hvs hlen=>?_) (Aa hp'.1) (Aw hp'.2)
 have r':=r
 refine Aq r' fun m led r0=>?_
 exact⟨a.G.X.keeps r0.F.keep,fin vs σ₁ R₁ rvs s₁ le sm r hvs hk⟩
end
end
end Ak
end
namespace Ak.Rxm
section
open PySem PySem.Sre
noncomputable abbrev SP:=Nat×Nat
noncomputable def mk(code text:Array Nat)(lim:Nat)(start:SP)(pc pos hd:Nat)(om:Bool)(I:Option Nat)(L:Array Loop)(F:List Sre.Frame)(w:Nat)(ans:Option Bool)(sn:Seen):M:=
 {code,text,lim,start:=start.1,lastStart:=start.2,pc,pos,handed:=hd,outermost:=om,marks:= #[],loops:=L,inner:=I,frames:=F,weight:=w,answer:=ans,seen:=sn}
noncomputable def iter:Nat→M→M
 |0,m=>m
 |n+1,m=>iter n m.step
theorem DT:∀(a b:Nat) (m:M),iter (a+b) m=iter b (iter a m)
 |0,b,m=>by rw[jD];rfl
 |a+1,b,m=>by rw[J6];exact DT a b m.step
noncomputable def R(n:Nat)(m:M)(P:M→Prop):Prop:=∃k,k≤n∧P (iter k m)
theorem R.here{n:Nat}{m:M}{P:M→Prop}(h:P m):R n m P:=⟨0,zH _,h⟩
theorem R.step{n:Nat}{m m':M}{P:M→Prop}(e:m.step=m')(h:R n m' P):R (n+1) m P:=by
 refine Ab h fun k hk hp=>?_
 exact⟨k+1,zN hk,by show P (iter k m.step);rw[e];exact hp⟩
theorem R.cast{a b:Nat}{m:M}{P:M→Prop}(h:R a m P)(l:a=b):R b m P:=l▸h
theorem R.mono{a b:Nat}{m:M}{P:M→Prop}(h:R a m P)(l:a≤b):R b m P:=by
 refine Ab h fun k hk hp=>?_
 exact⟨k,zl hk l,hp⟩
theorem R.sw{N n:Nat}{m:M}{P:M→Prop}(h:R (N+1+n) m P):R (N+n+1) m P:=h.cast (j3 N 1 n)
theorem w1{w n:Nat}(h:w+(n+1)≤16777216):w+1≤16777216:=zl (zN (zA w n)) h
theorem w2{w n:Nat}(h:w+(n+1)≤16777216):w+1+n≤16777216:=zl (Jc (J6 w n)) h
theorem w3{w n:Nat}(h:w+(n+1)≤16777216):w+n≤16777216:=Nat.le_of_succ_le h
section
variable (code text:Array Nat)(lim:Nat)(start:SP)
noncomputable def Go(z:Bool)(I:Option Nat)(L:Array Loop)(r:Option Nat)(F:List Sre.Frame)(w N:Nat)(Q:M→Prop):Prop:=
 ∀pc hd pos om I' L' sn,(∀e,r=some e→hd=e)→(r=none∨z=true→I'=I∧L'=L)→R N (mk code text lim start pc pos hd om I' L' F w (some r.isSome) sn) Q
noncomputable def B(z:Bool)(n pc pos:Nat)(I:Option Nat)(L:Array Loop)(r:Option Nat):Prop:=
 ∀hd om F w sn N Q,w+n≤16777216→Go code text lim start z I L r F w N Q→R (N+n) (mk code text lim start pc pos hd om I L F w none sn) Q
end
section
variable {z:Bool}{code text:Array Nat}{lim:Nat}{start:SP}{n pc pos hd w N:Nat}{om:Bool}{I:Option Nat}{L:Array Loop}{F:List Sre.Frame}{sn:Seen}{r:Option Nat}{Q:M→Prop}
theorem B.mono{n':Nat}(h:B code text lim start z n pc pos I L r)(l:n≤n'):B code text lim start z n' pc pos I L r:=
 fun hd om F w sn N Q hw k=>(h hd om F w sn N Q (zl (zS l w) hw) k).mono (zS l N)
theorem Go.no{pc:Nat}(k:Go code text lim start z I L none F w N Q):R N (mk code text lim start pc pos hd om I L F w (some false) sn) Q:=k pc hd pos om I L sn nofun fun _=>⟨rfl,rfl⟩
theorem step_mk(hp:pc < code.size):(mk code text lim start pc pos hd om I L F w none sn).step=(mk code text lim start pc pos hd om I L F w none sn).exec:=by
 unfold M.step
 show(if(none:Option Sre.Outcome).isSome=true then _ else if pc < code.size then _ else _)=_
 rw[zP (by simp),zX hp]
theorem size_of{k v:Nat}(h:code.getD k 0=v+1):k < code.size:=by
 apply jM
 intro hk
 rw[jY,Array.getElem?_eq_none (by lia)]at h
 cases h
theorem A3(f:Sre.Frame)(hf:f.kept.marks.size=0)(b:Bool):(mk code text lim start pc pos hd om I L (f::F) (w+1) (some b) sn).step=M.resume (mk code text lim start f.pc f.pos hd f.outermost I L F w none sn) f b:=by
 unfold M.step
 show M.resume {mk code text lim start f.pc f.pos hd f.outermost I L F w none sn with weight:=w+1 - (1+f.kept.marks.size)} f b=_
 rw[hf];rfl
theorem ZU(m:M)(h:m.word 0=1):m.exec=if(m.outermost && ((m.wholeText && m.pos !=m.lim) || (m.mustAdvance && m.pos==m.start)))=true then({m with seen:=m.seen.add 1}:M).say false else{m with seen:=m.seen.add 1,handed:=m.pos,answer:=some true}:=by
 unfold M.exec
 rw[h]
 rfl
theorem Mi(h:code.getD pc 0=1):B code text lim start z 1 pc pos I L (some pos):=fun hd om F w sn N Q _ k=>
 R.step ((step_mk (size_of h)).trans ((ZU (mk code text lim start pc pos hd om I L F w none sn) h).trans (zP (by induction om using za <;>exact jE)))) (k pc pos pos om I L _ (fun _ h=>ze h) fun _=>⟨rfl,rfl⟩)
noncomputable def Ej(k:Nat):Bool:=k==2 || k==3 || k==13 || k==16 || k==20
theorem LJ(h:Ej (code.getD pc 0)=true):(mk code text lim start pc pos hd om I L F w none sn).exec=
  if pos≥lim then mk code text lim start pc pos hd om I L F w (some false) (sn.add (code.getD pc 0))else
   match accepts code pc (text.getD pos 0) (sn.add (code.getD pc 0))with
   | .error why=>(mk code text lim start pc pos hd om I L F w none (sn.add (code.getD pc 0))).stick why
   | .ok (false,seen)=>mk code text lim start pc pos hd om I L F w (some false) seen
   | .ok (true,seen)=>mk code text lim start (pc+itemWidth code pc) (pos+1) hd om I L F w none seen:=by
 unfold M.exec
 have e:(mk code text lim start pc pos hd om I L F w none sn).word 0=code.getD pc 0:=rfl
 rw[e]
 revert h
 generalize code.getD pc 0=k
 intro h
 unfold Ej at h
 simp only[JJ,beq_iff_eq]at h
 rcases h with(((rfl |rfl) |rfl) |rfl) |rfl <;>rfl
theorem LU(h:Ej (code.getD pc 0)=true):pc < code.size:=by
 apply jM
 intro hk
 rw[jY,Array.getElem?_eq_none (Jh hk)]at h
 cases h
theorem ZA(h:Ej (code.getD pc 0)=true){a:Nat→Bool}(ha:∀c sn,∃sn',accepts code pc c sn=.ok (a c,sn'))(hl:pos < lim)(hy:a (text.getD pos 0)=true){k:Nat}(hw:itemWidth code pc=k)(hB:B code text lim start z n (pc+k) (pos+1) I L r):B code text lim start z (n+1) pc pos I L r:=by
 subst hw
 intro hd om F w sn N Q hw' k
 refine zg (ha (text.getD pos 0) (sn.add (code.getD pc 0))) fun sn' e=>?_
 refine R.step ((step_mk (LU h)).trans ((LJ h).trans ((zP (Nat.not_le_of_lt hl)).trans ?_))) (hB hd om F w sn' N Q (w3 hw') k)
 rw[e,hy]
theorem PV(h:Ej (code.getD pc 0)=true){a:Nat→Bool}(ha:∀c sn,∃sn',accepts code pc c sn=.ok (a c,sn'))(hl:pos < lim→a (text.getD pos 0)=false):B code text lim start z 1 pc pos I L none:=by
 intro hd om F w sn N Q hw' k
 refine R.step ((step_mk (LU h)).trans (LJ h)) ?_
 by_cases hp:pos≥lim
 ·rw[zX hp];exact k.no
 ·rw[zP hp]
  refine zg (ha (text.getD pos 0) (sn.add (code.getD pc 0))) fun sn' e=>?_
  rw[e,hl (JD hp)]
  exact k.no
theorem WU(m:M)(h:m.word 0=15):m.exec={m with seen:=m.seen.add 15,pc:=m.pc+1+m.word 1}:=by
 unfold M.exec
 rw[h]
 rfl
theorem Fj(h:code.getD pc 0=15){k:Nat}(h1:code.getD (pc+1) 0=k)(hB:B code text lim start z n (pc+1+k) pos I L r):B code text lim start z (n+1) pc pos I L r:=by
 subst h1
 exact fun hd om F w sn N Q hw k=>R.step ((step_mk (size_of h)).trans (WU (mk code text lim start pc pos hd om I L F w none sn) h)) (hB hd om F w _ N Q (w3 hw) k)
noncomputable def runN(a:Nat→Bool)(text:Array Nat):Nat→Nat→Nat
 |0,_=>0
 |n+1,p=>cond (a (text.getD p 0)) (runN a text n (p+1)+1) 0
theorem R7{i:Nat}{a:Nat→Bool}(ha:∀c sn,∃sn',accepts code i c sn=.ok (a c,sn')):∀(n p found:Nat) (sn:Seen),∃sn',Sre.run code text i n p found sn=.ok (found+runN a text n p,sn')
 |0,p,found,sn=>⟨sn,rfl⟩
 |n+1,p,found,sn=>by
  refine zg (ha (text.getD p 0) sn) fun sn' e=>?_
  unfold Sre.run
  rw[e]
  show∃sn'',(if a (text.getD p 0)=true then Sre.run code text i n (p+1) (found+1) sn' else Except.ok (found,sn'))=_
  unfold runN
  induction q:a (text.getD p 0)using za with
  |true=>
   refine zg (R7 ha n (p+1) (found+1) sn') fun sn'' e'=>?_
   exact⟨sn'',by rw[zX rfl,e',jz];congr 2;lia⟩
  |false=>exact⟨sn',by rw[zP (by simp),z6];rfl⟩
theorem N6(a:Nat→Bool)(text:Array Nat):∀n p,runN a text n p≤n
 |0,_=>zw _
 |n+1,p=>by
  unfold runN
  induction a (text.getD p 0)using za with
  |true=>exact zN (N6 a text n (p+1))
  |false=>exact zH _
noncomputable def kp(wh:Bool):Sre.Kept:={whole:=wh}
theorem E1{wh:Bool}{an:Option Bool}:(mk code text lim start pc pos hd om I L F w an sn).keep wh=kp wh:=by
 unfold M.keep kp
 induction wh using za <;>simp[mk]
theorem back_mk{wh:Bool}{an:Option Bool}:(mk code text lim start pc pos hd om I L F w an sn).putBack (kp wh)=mk code text lim start pc pos hd om I L F w an sn:=by
 unfold M.putBack kp
 induction wh using za <;>simp[mk]
theorem Cf{f:Sre.Frame}{t p:Nat}{om':Bool}(hf:f.kept.marks.size=0)(hw:w+1≤16777216):(mk code text lim start pc pos hd om I L F w none sn).attempt f t p om'=mk code text lim start t p p om' I L (f::F) (w+1) none sn:=by
 unfold M.attempt
 show(if w+1+f.kept.marks.size >16777216 then _ else _)=_
 rw[hf,zP (by lia)]
 rfl
noncomputable def gb(pc pos:Nat)(om:Bool)(n:Nat)(wh:Bool):Sre.Frame:={wait:=.giveBack,pc,pos,outermost:=om,count:=n,kept:=kp wh}
theorem KO{n:Nat}{wh:Bool}(hw:w+1≤16777216):(mk code text lim start pc pos hd om I L F w none sn).afterRun .giveBack (n:Int) (kp wh)=mk code text lim start (pc+1+code.getD (pc+1) 0) pos pos om I L (gb pc pos om n wh::F) (w+1) none sn:=by
 unfold M.afterRun
 rw[Cf (by rfl) hw]
 rfl
theorem WX(m:M)(h:m.word 0=24):m.exec=
  if((m.word 2:Nat):Int) >(m.lim:Int) - m.pos then({m with seen:=m.seen.add 24}:M).say false else
   match Sre.run m.code m.text (m.pc+4) (min (m.word 3) ((m.lim:Int) - m.pos).toNat) m.pos 0 ((m.seen.add 24).add (m.word 4))with
   | .error why=>({m with seen:=m.seen.add 24}:M).stick why
   | .ok (n,seen)=>if n < m.word 2 then({m with seen}:M).say false else({m with seen,pos:=m.pos+n}:M).afterRun .giveBack n (M.keep {m with seen,pos:=m.pos+n} m.inner.isSome):=by
 unfold M.exec
 rw[h]
 rfl
theorem Ux{a l m r:Nat}(h:(a:Int) >(l:Int) - (m:Int))(hp:m≤l)(hr:r≤l - m):¬a≤r:=by lia
theorem LM(h:code.getD pc 0=24){least most:Nat}(h2:code.getD (pc+2) 0=least)(h3:code.getD (pc+3) 0=most){a:Nat→Bool}(ha:∀c sn,∃sn',accepts code (pc+4) c sn=.ok (a c,sn'))(hp:pos≤lim)(hw:w+1≤16777216):
  ∃sn',(mk code text lim start pc pos hd om I L F w none sn).exec=(if least≤runN a text (min most (lim - pos)) pos then
   mk code text lim start (pc+1+code.getD (pc+1) 0) (pos+runN a text (min most (lim - pos)) pos) (pos+runN a text (min most (lim - pos)) pos) om I L (gb pc (pos+runN a text (min most (lim - pos)) pos) om (runN a text (min most (lim - pos)) pos) I.isSome::F) (w+1) none sn'
   else mk code text lim start pc pos hd om I L F w (some false) sn'):=by
 have e:(mk code text lim start pc pos hd om I L F w none sn).word 0=24:=h
 have e2:(mk code text lim start pc pos hd om I L F w none sn).word 2=least:=h2
 have e3:(mk code text lim start pc pos hd om I L F w none sn).word 3=most:=h3
 have hr:((lim:Int) - (pos:Int)).toNat=lim - pos:=by lia
 rw[WX _ e,e2,e3]
 show∃sn',(if(least:Int) >(lim:Int) - (pos:Int)then mk code text lim start pc pos hd om I L F w (some false) (sn.add 24)else
  match Sre.run code text (pc+4) (min most ((lim:Int) - (pos:Int)).toNat) pos 0 ((sn.add 24).add (code.getD (pc+4) 0))with
  | .error why=>(mk code text lim start pc pos hd om I L F w none (sn.add 24)).stick why
  | .ok (n,seen)=>if n < least then mk code text lim start pc pos hd om I L F w (some false) seen else(mk code text lim start pc (pos+n) hd om I L F w none seen).afterRun .giveBack n (M.keep (mk code text lim start pc (pos+n) hd om I L F w none seen) I.isSome))=_
 rw[hr]
 refine zg (R7 (text:=text) ha (min most (lim - pos)) pos 0 ((sn.add 24).add (code.getD (pc+4) 0))) fun sn' er=>?_
 have hle:=N6 a text (min most (lim - pos)) pos
 by_cases hroom:(least:Int) >(lim:Int) - (pos:Int)
 ·refine⟨sn.add 24,?_⟩
  rw[zX hroom,zP (Ux hroom hp (zl hle (Nat.min_le_right _ _)))]
 ·refine⟨sn',?_⟩
  rw[zP hroom,er,jD]
  simp only
  by_cases hn:runN a text (min most (lim - pos)) pos < least
  ·rw[zX hn,zP (by lia)]
  ·rw[zP hn,zX (by lia),E1]
   exact KO hw
theorem HS(h:code.getD pc 0=24){least most skip N e:Nat}(h1:code.getD (pc+1) 0=skip)(h2:code.getD (pc+2) 0=least)(h3:code.getD (pc+3) 0=most){a:Nat→Bool}(ha:∀c sn,∃sn',accepts code (pc+4) c sn=.ok (a c,sn'))(hp:pos≤lim)
  (hN:runN a text (min most (lim - pos)) pos=N) (hl:least≤N) (hB:B code text lim start z n (pc+1+skip) (pos+N) I L (some e)):B code text lim start z (n+2) pc pos I L (some e):=by
 subst h1;subst hN
 intro hd om F w sn N Q hw k
 refine zg (LM (text:=text) (lim:=lim) (start:=start) (pos:=pos) (hd:=hd) (om:=om) (I:=I) (L:=L) (F:=F) (sn:=sn) h h2 h3 ha hp (w:=w) (w1 hw)) fun sn' e=>?_
 rw[zX hl]at e
 exact R.step ((step_mk (size_of h)).trans e) (R.sw (hB _ om _ (w+1) sn' (N+1) Q (w3 (w2 hw)) fun _ _ _ _ _ _ _ h4 h5=>R.step (A3 _ rfl _) (k _ _ _ _ _ _ _ h4 h5)))
theorem Ii{least j:Nat}{wh:Bool}(h2:code.getD (pc+2) 0=least)(hw:w+1≤16777216):M.resume (mk code text lim start pc (pos+j) hd om I L F w none sn) (gb pc (pos+j) om j wh) false=
  if least < j then mk code text lim start (pc+1+code.getD (pc+1) 0) (pos+(j - 1)) (pos+(j - 1)) om I L (gb pc (pos+(j - 1)) om (j - 1) wh::F) (w+1) none sn else mk code text lim start pc (pos+j) hd om I L F w (some false) sn:=by
 show(if(j:Int) - 1 < ((code.getD (pc+2) 0:Nat):Int)then((mk code text lim start pc (pos+j) hd om I L F w none sn).putBack (kp wh)).say false else M.afterRun {(mk code text lim start pc (pos+j) hd om I L F w none sn).putBack (kp wh)with pos:=pos+j - 1} .giveBack ((j:Int) - 1) (kp wh))=_
 rw[h2,back_mk]
 by_cases hj:least < j
 ·rw[zP (by lia),zX hj]
  have e1:(j:Int) - 1=((j - 1:Nat):Int):=by lia
  have e2:pos+j - 1=pos+(j - 1):=by lia
  rw[e1,e2]
  exact KO hw
 ·rw[zX (by lia),zP hj];rfl
theorem RV{least c:Nat}{wh:Bool}(h2:code.getD (pc+2) 0=least)(hw:w+1+c≤16777216)(j:Nat):∀(n:Nat),B code text lim start z n (pc+1+code.getD (pc+1) 0) (pos+j) I L none→(∀i,least≤i→i < j→B code text lim start z c (pc+1+code.getD (pc+1) 0) (pos+i) I L none)→w+1+n≤16777216→∀om sn,Go code text lim start z I L none F w N Q→
  R (N+j*(c+1)+1+n) (mk code text lim start (pc+1+code.getD (pc+1) 0) (pos+j) (pos+j) om I L (gb pc (pos+j) om j wh::F) (w+1) none sn) Q:=by
 induction j with
 |zero=>
  intro n hN _ hn om sn k
  refine hN _ om _ (w+1) sn _ Q hn fun pc' hd' pos' om' I' L' sn' _ h5=>?_
  refine Ao (h5 (.inl rfl)) fun h6 h7=>?_
  rw[h6,h7]
  refine R.step ((A3 _ rfl _).trans ((Ii h2 (Nat.le_of_add_right_le hw)).trans (zP (jt _)))) ?_
  exact k.no.mono (zA _ _)
 |succ j ih=>
  intro n hN hB hn om sn k
  refine hN _ om _ (w+1) sn _ Q hn fun pc' hd' pos' om' I' L' sn' _ h5=>?_
  refine Ao (h5 (.inl rfl)) fun h6 h7=>?_
  rw[h6,h7]
  refine R.step ((A3 _ rfl _).trans (Ii h2 (Nat.le_of_add_right_le hw))) ?_
  by_cases hl:least < j+1
  ·rw[zX hl]
   refine R.cast (ih c (hB j (Jp hl) (zQ j)) (fun i a b=>hB i a (JA b)) hw om sn' k) ?_
   rw[Nat.succ_mul,zT,zT,jy 1 c]
  ·rw[zP hl]
   exact k.no.mono (zA _ _)
theorem PW(h:code.getD pc 0=24){least most skip N c K:Nat}(h1:code.getD (pc+1) 0=skip)(h2:code.getD (pc+2) 0=least)(h3:code.getD (pc+3) 0=most){a:Nat→Bool}(ha:∀c sn,∃sn',accepts code (pc+4) c sn=.ok (a c,sn'))(hp:pos≤lim)
  (hN:runN a text (min most (lim - pos)) pos=N) (hT:least≤N→B code text lim start z n (pc+1+skip) (pos+N) I L none) (hB:∀i,least≤i→i < N→B code text lim start z c (pc+1+skip) (pos+i) I L none) (hK:n+c+3+N*(c+1)≤K):B code text lim start z K pc pos I L none:=by
 subst h1;subst hN
 refine B.mono (n:=n+c+3+runN a text (min most (lim - pos)) pos*(c+1)) ?_ hK
 intro hd om F w sn N Q hw k
 refine zg (LM (text:=text) (lim:=lim) (start:=start) (pos:=pos) (hd:=hd) (om:=om) (I:=I) (L:=L) (F:=F) (sn:=sn) h h2 h3 ha hp (w:=w) (by lia)) fun sn' e=>?_
 refine R.mono (a:=N+runN a text (min most (lim - pos)) pos*(c+1)+1+n+1) (R.step ((step_mk (size_of h)).trans e) ?_) (by lia)
 by_cases hl:least≤runN a text (min most (lim - pos)) pos
 ·rw[zX hl]
  exact RV h2 (by lia) _ n (hT hl) hB (by lia) om sn' k
 ·rw[zP hl]
  exact k.no.mono (zl (zA _ _) (zl (zA _ 1) (zA _ n)))
noncomputable def br(alt pos:Nat)(om:Bool)(wh:Bool):Sre.Frame:={wait:=.nextBranch,pc:=alt,pos,outermost:=om,kept:=kp wh}
theorem PL{alt:Nat}{wh:Bool}(hw:w+1≤16777216):(mk code text lim start pc pos hd om I L F w none sn).alternative alt (kp wh)=
  if code.getD alt 0=0 then mk code text lim start pc pos hd om I L F w (some false) sn else mk code text lim start (alt+1) pos pos om I L (br alt pos om wh::F) (w+1) none sn:=by
 unfold M.alternative
 show(if(code.getD alt 0==0)=true then _ else _)=_
 by_cases h:code.getD alt 0=0
 ·rw[h];rfl
 ·rw[zP (by simpa using h),zP h]
  exact Cf rfl hw
section
variable (code text:Array Nat)(lim:Nat)(start:SP)
noncomputable def A(z:Bool)(n alt pos:Nat)(I:Option Nat)(L:Array Loop)(r:Option Nat):Prop:=
 ∀pc hd om F w sn wh N Q,w+n+1≤16777216→Go code text lim start z I L r F w N Q→R (N+n) ((mk code text lim start pc pos hd om I L F w none sn).alternative alt (kp wh)) Q
end
theorem A.mono{n' alt:Nat}(h:A code text lim start z n alt pos I L r)(l:n≤n'):A code text lim start z n' alt pos I L r:=
 fun pc hd om F w sn wh N Q hw k=>(h pc hd om F w sn wh N Q (zl (zN (zS l w)) hw) k).mono (zS l N)
theorem Nh{alt:Nat}(h:code.getD alt 0=0):A code text lim start z 0 alt pos I L none:=by
 intro pc hd om F w sn wh N Q hw k
 rw[PL hw,zX h]
 exact k.no
theorem KQ{alt k:Nat}{wh:Bool}(h:code.getD alt 0=k+1)(hw:w+1≤16777216):(mk code text lim start pc pos hd om I L F w none sn).alternative alt (kp wh)=mk code text lim start (alt+1) pos pos om I L (br alt pos om wh::F) (w+1) none sn:=
 (PL hw).trans (zP (by rw[h];exact jO k))
theorem GE{alt e k:Nat}(h:code.getD alt 0=k+1)(hB:B code text lim start z n (alt+1) pos I L (some e)):A code text lim start z (n+1) alt pos I L (some e):=by
 intro pc hd om F w sn wh N Q hw k
 rw[KQ h (w1 (n:=n+1) (w:=w) hw)]
 exact R.sw (hB _ om _ (w+1) sn (N+1) Q (w3 (w2 (n:=n+1) (w:=w) hw)) fun _ _ _ _ _ _ _ h4 h5=>R.step (A3 _ rfl _) (k _ _ _ _ _ _ _ h4 h5))
theorem BB{alt k n':Nat}(h:code.getD alt 0=k+1)(hB:B code text lim start z n (alt+1) pos I L none)(hA:A code text lim start z n' (alt+(k+1)) pos I L r):A code text lim start z (n+(n'+1)) alt pos I L r:=by
 intro pc hd om F w sn wh N Q hw k
 rw[KQ h (by lia)]
 refine R.cast (hB _ om _ (w+1) sn (N+n'+1) Q (by lia) fun pc' hd' pos' om' I' L' sn' _ h5=>?_) (by lia)
 refine Ao (h5 (.inl rfl)) fun h6 h7=>?_
 rw[h6,h7]
 refine R.step (m':=(mk code text lim start alt pos hd' om I L F w none sn').alternative (alt+code.getD alt 0) (kp wh)) ((A3 (br alt pos om wh) rfl _).trans (zB (fun m:M=>m.alternative (alt+code.getD alt 0) (kp wh)) back_mk)) ?_
 rw[h]
 exact hA alt hd' om F w sn' wh N Q (by lia) k
theorem ZW(m:M)(h:m.word 0=7):m.exec=({m with seen:=m.seen.add 7}:M).alternative (m.pc+1) (M.keep {m with seen:=m.seen.add 7} m.inner.isSome):=by
 unfold M.exec
 rw[h]
 rfl
theorem BH(h:code.getD pc 0=7)(hA:A code text lim start z n (pc+1) pos I L r):B code text lim start z (n+1) pc pos I L r:=fun hd om F w sn N Q hw k=>
 R.step ((step_mk (size_of h)).trans ((ZW (mk code text lim start pc pos hd om I L F w none sn) h).trans (zB (M.alternative (mk code text lim start pc pos hd om I L F w none (sn.add 7)) (pc+1)) E1))) (hA pc hd om F w _ _ N Q hw k)
noncomputable def lp(pr:Nat)(cnt:Int)(bg:Option Nat)(I:Option Nat):Loop:={pc:=pr,count:=cnt,began:=bg,outer:=I}
theorem FD(L:Array Loop)(x d:Loop):(L.push x).getD L.size d=x:=by
 rw[jY,Array.getElem?_push_size];rfl
theorem DX(L:Array Loop)(x:Loop)(f:Loop→Loop):(L.push x).modify L.size f=L.push (f x):=by
 apply Array.ext
 ·simp
 ·intro i h1 h2
  have h3:i < L.size+1:=by simpa using h1
  simp only[Array.getElem_modify,Array.getElem_push]
  split <;>split <;>first |rfl |lia
noncomputable def cl(pc pos:Nat)(om:Bool)(i:Nat):Sre.Frame:={wait:=.closeLoop,pc,pos,outermost:=om,loop:=i,kept:=kp false}
theorem WW(m:M)(h:m.word 0=23):m.exec=({m with seen:=m.seen.add 23,loops:=m.loops.push {pc:=m.pc,outer:=m.inner},inner:=some m.loops.size}:M).attempt {wait:=.closeLoop,pc:=m.pc,pos:=m.pos,outermost:=m.outermost,loop:=m.loops.size} (m.pc+1+m.word 1) m.pos m.outermost:=by
 unfold M.exec
 rw[h]
 rfl
theorem Dd(h:code.getD pc 0=23){skip:Nat}(h1:code.getD (pc+1) 0=skip)(hB:B code text lim start z n (pc+1+skip) pos (some L.size) (L.push (lp pc (-1) none I)) r):B code text lim start z (n+2) pc pos I L r:=by
 subst h1
 intro hd om F w sn N Q hw k
 refine R.step ((step_mk (size_of h)).trans ((WW (mk code text lim start pc pos hd om I L F w none sn) h).trans
  (Cf (code:=code) (text:=text) (lim:=lim) (start:=start) (pc:=pc) (pos:=pos) (hd:=hd) (om:=om) (I:=some L.size) (L:=L.push (lp pc (-1) none I)) (F:=F) (sn:=sn.add 23) (f:=cl pc pos om L.size) (om':=om) rfl (w1 hw)))) (R.sw ?_)
 refine hB _ om _ (w+1) _ (N+1) Q (w3 (w2 hw)) fun pc' hd' pos' om' I' L' sn' h4 h5=>R.step (A3 _ rfl _) (k _ _ _ _ (L'.getD L.size {pc:=0,outer:=none}).outer L'.pop _ h4 fun h=>?_)
 rw[(h5 h).2,FD]
 exact⟨rfl,Array.pop_push ..⟩
theorem WV(m:M)(h:m.word 0=18):m.exec=({m with seen:=m.seen.add 18,pc:=m.pc+1}:M).until_ true:=by
 unfold M.exec
 rw[h]
 rfl
noncomputable def mt(pc pos:Nat)(om:Bool)(i:Nat)(cnt:Int):Sre.Frame:={wait:=.maxTail,pc,pos,outermost:=om,count:=cnt,kept:=kp false,loop:=i}
noncomputable def mm(pc pos:Nat)(om:Bool)(i:Nat)(cnt:Int)(bg:Option Nat):Sre.Frame:={wait:=.maxMore,pc,pos,outermost:=om,count:=cnt,kept:=kp true,loop:=i,began:=bg}
theorem GF{cnt:Int}{pr:Nat}{c0:Int}{bg I0:Option Nat}{I1:Option Nat}(hw:w+1≤16777216):(mk code text lim start pc pos hd om I1 (L.push (lp pr c0 bg I0)) F w none sn).afterLoop .maxTail L.size cnt (fun _=>false)=
  mk code text lim start pc pos pos om I0 (L.push (lp pr c0 bg I0)) (mt pc pos om L.size cnt::F) (w+1) none sn:=by
 unfold M.afterLoop
 have e:(mk code text lim start pc pos hd om I1 (L.push (lp pr c0 bg I0)) F w none sn).loopAt L.size=lp pr c0 bg I0:=FD ..
 rw[e]
 show M.attempt (mk code text lim start pc pos hd om I0 (L.push (lp pr c0 bg I0)) F w none sn) {(mk code text lim start pc pos hd om I0 (L.push (lp pr c0 bg I0)) F w none sn).frame .maxTail with loop:=L.size,count:=cnt,kept:=(mk code text lim start pc pos hd om I0 (L.push (lp pr c0 bg I0)) F w none sn).keep false} pc pos om=_
 rw[E1]
 exact Cf (f:=mt pc pos om L.size cnt) rfl hw
noncomputable def E6(cnt:Int)(most:Nat)(bg:Option Nat)(pos:Nat):Bool:=(decide (cnt+1 < (most:Int)) || most==maxRepeat) && bg !=some pos
theorem SI{pr least most:Nat}{cnt:Int}{bg:Option Nat}(h2:code.getD (pr+2) 0=least)(h3:code.getD (pr+3) 0=most)(hc:¬cnt+1 < (least:Int))(hw:w+1≤16777216):
  (mk code text lim start pc pos hd om (some L.size) (L.push (lp pr cnt bg I)) F w none sn).until_ true=if E6 cnt most bg pos=true then
   mk code text lim start (pr+4) pos pos om (some L.size) (L.push (lp pr (cnt+1) (some pos) I)) (mm pc pos om L.size (cnt+1) bg::F) (w+1) none sn
   else mk code text lim start pc pos pos om I (L.push (lp pr cnt bg I)) (mt pc pos om L.size (cnt+1)::F) (w+1) none sn:=by
 unfold M.until_
 have e:(mk code text lim start pc pos hd om (some L.size) (L.push (lp pr cnt bg I)) F w none sn).loopAt L.size=lp pr cnt bg I:=FD ..
 show(if((mk code text lim start pc pos hd om (some L.size) (L.push (lp pr cnt bg I)) F w none sn).loopAt L.size).count+1 < ((code.getD (((mk code text lim start pc pos hd om (some L.size) (L.push (lp pr cnt bg I)) F w none sn).loopAt L.size).pc+2) 0:Nat):Int)then _ else
  if((decide (((mk code text lim start pc pos hd om (some L.size) (L.push (lp pr cnt bg I)) F w none sn).loopAt L.size).count+1 < ((code.getD (((mk code text lim start pc pos hd om (some L.size) (L.push (lp pr cnt bg I)) F w none sn).loopAt L.size).pc+3) 0:Nat):Int)) || (code.getD (((mk code text lim start pc pos hd om (some L.size) (L.push (lp pr cnt bg I)) F w none sn).loopAt L.size).pc+3) 0)==maxRepeat) &&
   ((mk code text lim start pc pos hd om (some L.size) (L.push (lp pr cnt bg I)) F w none sn).loopAt L.size).began !=some pos)=true then
   M.round (mk code text lim start pc pos hd om (some L.size) (L.push (lp pr cnt bg I)) F w none sn) .maxMore L.size (((mk code text lim start pc pos hd om (some L.size) (L.push (lp pr cnt bg I)) F w none sn).loopAt L.size).count+1) true (M.keep (mk code text lim start pc pos hd om (some L.size) (L.push (lp pr cnt bg I)) F w none sn) true)
  else M.afterLoop (mk code text lim start pc pos hd om (some L.size) (L.push (lp pr cnt bg I)) F w none sn) .maxTail L.size (((mk code text lim start pc pos hd om (some L.size) (L.push (lp pr cnt bg I)) F w none sn).loopAt L.size).count+1) (fun _=>false))=_
 rw[e]
 show(if cnt+1 < ((code.getD (pr+2) 0:Nat):Int)then _ else if((decide (cnt+1 < ((code.getD (pr+3) 0:Nat):Int)) || code.getD (pr+3) 0==maxRepeat) && bg !=some pos)=true then M.round _ .maxMore L.size (cnt+1) true _ else M.afterLoop _ _ _ (cnt+1) _)=_
 rw[h2,h3,zP hc]
 show(if E6 cnt most bg pos=true then _ else _)=_
 induction E6 cnt most bg pos using za with
 |false=>rw[zP (by simp),zP (by simp)];exact GF hw
 |true=>
  rw[zX rfl,zX rfl,E1]
  unfold M.round
  rw[e]
  have e2:(mk code text lim start pc pos hd om (some L.size) (L.push (lp pr cnt bg I)) F w none sn).setLoop L.size (fun l=>{l with count:=cnt+1,began:=if true=true then some pos else l.began})=mk code text lim start pc pos hd om (some L.size) (L.push (lp pr (cnt+1) (some pos) I)) F w none sn:=by
   unfold M.setLoop
   show({mk code text lim start pc pos hd om (some L.size) (L.push (lp pr cnt bg I)) F w none sn with loops:=(L.push (lp pr cnt bg I)).modify L.size _}:M)=_
   rw[DX];rfl
  show M.attempt ((mk code text lim start pc pos hd om (some L.size) (L.push (lp pr cnt bg I)) F w none sn).setLoop L.size (fun l=>{l with count:=cnt+1,began:=if true=true then some pos else l.began})) _ (pr+4) _ _=_
  rw[e2]
  exact Cf (f:=mm pc pos om L.size (cnt+1) bg) rfl hw
theorem O6{pr:Nat}{cnt:Int}{bg:Option Nat}(hw:w+1≤16777216):M.resume (mk code text lim start pc pos hd om (some L.size) (L.push (lp pr (cnt+1) (some pos) I)) F w none sn) (mm pc pos om L.size (cnt+1) bg) false=
  mk code text lim start pc pos pos om I (L.push (lp pr cnt bg I)) (mt pc pos om L.size (cnt+1)::F) (w+1) none sn:=by
 have e2:(mk code text lim start pc pos hd om (some L.size) (L.push (lp pr (cnt+1) (some pos) I)) F w none sn).setLoop L.size (fun l=>{l with began:=bg})=mk code text lim start pc pos hd om (some L.size) (L.push (lp pr (cnt+1) bg I)) F w none sn:=by
  unfold M.setLoop
  show({mk code text lim start pc pos hd om (some L.size) (L.push (lp pr (cnt+1) (some pos) I)) F w none sn with loops:=(L.push (lp pr (cnt+1) (some pos) I)).modify L.size _}:M)=_
  rw[DX];rfl
 have e3:(mk code text lim start pc pos hd om (some L.size) (L.push (lp pr (cnt+1) bg I)) F w none sn).setLoop L.size (fun l=>{l with count:=cnt+1 - 1})=mk code text lim start pc pos hd om (some L.size) (L.push (lp pr cnt bg I)) F w none sn:=by
  unfold M.setLoop
  show({mk code text lim start pc pos hd om (some L.size) (L.push (lp pr (cnt+1) bg I)) F w none sn with loops:=(L.push (lp pr (cnt+1) bg I)).modify L.size _}:M)=_
  rw[DX]
  have:cnt+1 - 1=cnt:=by lia
  rw[this];rfl
 show M.afterLoop (M.setLoop (M.putBack (M.setLoop (mk code text lim start pc pos hd om (some L.size) (L.push (lp pr (cnt+1) (some pos) I)) F w none sn) L.size (fun l=>{l with began:=bg})) (kp true)) L.size (fun l=>{l with count:=cnt+1 - 1})) .maxTail L.size (cnt+1) (fun _=>false)=_
 rw[e2,back_mk,e3]
 exact GF hw
theorem M6(h:code.getD pc 0=18){pr least most:Nat}{cnt:Int}{bg:Option Nat}(h2:code.getD (pr+2) 0=least)(h3:code.getD (pr+3) 0=most)(hc:¬cnt+1 < (least:Int))(hw:w+1≤16777216):
  (mk code text lim start pc pos hd om (some L.size) (L.push (lp pr cnt bg I)) F w none sn).step=if E6 cnt most bg pos=true then
   mk code text lim start (pr+4) pos pos om (some L.size) (L.push (lp pr (cnt+1) (some pos) I)) (mm (pc+1) pos om L.size (cnt+1) bg::F) (w+1) none (sn.add 18)
   else mk code text lim start (pc+1) pos pos om I (L.push (lp pr cnt bg I)) (mt (pc+1) pos om L.size (cnt+1)::F) (w+1) none (sn.add 18):=
 (step_mk (size_of h)).trans ((WV (mk code text lim start pc pos hd om (some L.size) (L.push (lp pr cnt bg I)) F w none sn) h).trans (SI h2 h3 hc hw))
theorem Rd{z:Bool}{L₁:Array Loop}{I₀ I₁:Option Nat}{pos i:Nat}{cnt:Int}(k:Go code text lim start z I₁ L₁ r F w N Q)(e:I₁=some i):Go code text lim start z I₀ L₁ r (mt pc pos om i cnt::F) (w+1) (N+1) Q:=fun _ _ _ _ _ _ _ h4 h5=>
 R.step (A3 _ rfl _) (k _ _ _ _ (some i) _ _ h4 fun h=>⟨e.symm,(h5 h).2⟩)
theorem SH(h:code.getD pc 0=18){pr least most:Nat}{cnt:Int}{bg:Option Nat}(h2:code.getD (pr+2) 0=least)(h3:code.getD (pr+3) 0=most)(hc:¬cnt+1 < (least:Int))(hm:E6 cnt most bg pos=false)
  (hB:B code text lim start z n (pc+1) pos I (L.push (lp pr cnt bg I)) r):B code text lim start z (n+2) pc pos (some L.size) (L.push (lp pr cnt bg I)) r:=fun hd om F w sn N Q hw k=>
 R.step ((M6 h h2 h3 hc (w1 hw)).trans (zP (by rw[hm];exact jE))) (R.sw (hB _ om _ (w+1) _ (N+1) Q (w3 (w2 hw)) (Rd k rfl)))
theorem KJ{e:Nat}(h:code.getD pc 0=18){pr least most:Nat}{cnt:Int}{bg:Option Nat}(h2:code.getD (pr+2) 0=least)(h3:code.getD (pr+3) 0=most)(hc:¬cnt+1 < (least:Int))(hm:E6 cnt most bg pos=true)
  (hB:B code text lim start z n (pr+4) pos (some L.size) (L.push (lp pr (cnt+1) (some pos) I)) (some e)):B code text lim start false (n+2) pc pos (some L.size) (L.push (lp pr cnt bg I)) (some e):=fun hd om F w sn N Q hw k=>
 R.step ((M6 h h2 h3 hc (w1 hw)).trans (zX hm)) (R.sw (hB _ om _ (w+1) _ (N+1) Q (w3 (w2 hw)) fun _ _ _ _ I' L' _ h4 _=>R.step (A3 _ rfl _) (k _ _ _ _ I' (L'.modify L.size (fun l=>{l with began:=bg})) _ h4 fun h=>h.elim nofun nofun)))
theorem FK{n':Nat}(h:code.getD pc 0=18){pr least most:Nat}{cnt:Int}{bg:Option Nat}(h2:code.getD (pr+2) 0=least)(h3:code.getD (pr+3) 0=most)(hc:¬cnt+1 < (least:Int))(hm:E6 cnt most bg pos=true)
  (hB:B code text lim start z n (pr+4) pos (some L.size) (L.push (lp pr (cnt+1) (some pos) I)) none) (hT:B code text lim start z n' (pc+1) pos I (L.push (lp pr cnt bg I)) r):B code text lim start z (n+n'+3) pc pos (some L.size) (L.push (lp pr cnt bg I)) r:=by
 intro hd om F w sn N Q hw k
 refine R.cast (R.step ((M6 h h2 h3 hc (w1 hw)).trans (zX hm)) (hB _ om _ (w+1) _ (N+1+n'+1) Q (by lia) fun pc' hd' pos' om' I' L' sn' _ h5=>?_)) (by lia)
 refine Ao (h5 (.inl rfl)) fun h6 h7=>?_
 rw[h6,h7]
 exact R.step ((A3 _ rfl _).trans (O6 (w1 hw))) (hT _ om _ (w+1) _ (N+1) Q (by lia) (Rd k rfl))
noncomputable def ln(pc pos:Nat)(om wh:Bool):Sre.Frame:={wait:=.lookNot,pc,pos,outermost:=om,kept:=kp wh}
theorem ZV(m:M)(h:m.word 0=5):m.exec=if m.pos < m.word 2 then{m with seen:=m.seen.add 5,pc:=m.pc+1+m.word 1}else
  ({m with seen:=m.seen.add 5}:M).attempt {wait:=.lookNot,pc:=m.pc,pos:=m.pos,outermost:=m.outermost,kept:=M.keep {m with seen:=m.seen.add 5} m.inner.isSome} (m.pc+3) (m.pos - m.word 2) false:=by
 unfold M.exec
 rw[h]
 rfl
theorem HR(h:code.getD pc 0=5)(h2:code.getD (pc+2) 0=0)(hw:w+1≤16777216):(mk code text lim start pc pos hd om I L F w none sn).step=mk code text lim start (pc+3) pos pos false I L (ln pc pos om I.isSome::F) (w+1) none (sn.add 5):=by
 refine(step_mk (size_of h)).trans ((ZV (mk code text lim start pc pos hd om I L F w none sn) h).trans ?_)
 show(if pos < code.getD (pc+2) 0 then _ else M.attempt (mk code text lim start pc pos hd om I L F w none (sn.add 5)) {wait:=.lookNot,pc:=pc,pos:=pos,outermost:=om,kept:=M.keep (mk code text lim start pc pos hd om I L F w none (sn.add 5)) I.isSome} (pc+3) (pos - code.getD (pc+2) 0) false)=_
 rw[h2,zP (by lia),E1]
 exact Cf (f:=ln pc pos om I.isSome) rfl hw
theorem Wn{skip n':Nat}(h:code.getD pc 0=5)(h1:code.getD (pc+1) 0=skip)(h2:code.getD (pc+2) 0=0)(hB:B code text lim start true n (pc+3) pos I L none)(hT:B code text lim start z n' (pc+1+skip) pos I L r):B code text lim start z (n+n'+2) pc pos I L r:=by
 subst h1
 intro hd om F w sn N Q hw k
 refine R.cast (R.step (HR h h2 (w1 hw)) (hB _ _ _ (w+1) _ (N+n'+1) Q (by lia) fun pc' hd' pos' om' I' L' sn' _ h5=>?_)) (by lia)
 refine Ao (h5 (.inl rfl)) fun h6 h7=>?_
 rw[h6,h7]
 exact R.step ((A3 (ln pc pos om I.isSome) rfl _).trans (zB (fun m:M=>({m with pc:=pc+1+code.getD (pc+1) 0}:M)) back_mk)) (hT _ om _ w _ N Q (by lia) k)
theorem Ou{e:Nat}(h:code.getD pc 0=5)(h2:code.getD (pc+2) 0=0)(hB:B code text lim start true n (pc+3) pos I L (some e)):B code text lim start z (n+2) pc pos I L none:=by
 intro hd om F w sn N Q hw k
 refine R.step (HR h h2 (w1 hw)) (R.sw (hB _ _ _ (w+1) _ (N+1) Q (w3 (w2 hw)) fun pc' hd' pos' om' I' L' sn' _ h5=>?_))
 refine Ao (h5 (.inr rfl)) fun h6 h7=>?_
 rw[h6,h7]
 exact R.step (A3 (ln pc pos om I.isSome) rfl _) k.no
noncomputable def HB(text:Array Nat)(lim pos:Nat):Bool:=lim !=0 && ((decide (pos >0) && isWordUni (text.getD (pos - 1) 0)) !=(decide (pos < lim) && isWordUni (text.getD pos 0)))==true
theorem Vq(m:M)(h:m.word 0=6):m.exec=match m.isAt (m.word 1)with
  | .error why=>({m with seen:=m.seen.add 6}:M).stick why
  | .ok yes=>if yes then{m with seen:=(m.seen.add 6).add (43+m.word 1),pc:=m.pc+2}else({m with seen:=(m.seen.add 6).add (43+m.word 1)}:M).say false:=by
 unfold M.exec
 rw[h]
 rfl
theorem H2(h:code.getD pc 0=6)(h1:code.getD (pc+1) 0=10):∃sn',(mk code text lim start pc pos hd om I L F w none sn).step=cond (HB text lim pos) (mk code text lim start (pc+2) pos hd om I L F w none sn') (mk code text lim start pc pos hd om I L F w (some false) sn'):=by
 refine⟨(sn.add 6).add (43+10),(step_mk (size_of h)).trans ((Vq (mk code text lim start pc pos hd om I L F w none sn) h).trans ?_)⟩
 have e:(mk code text lim start pc pos hd om I L F w none sn).word 1=10:=h1
 rw[e]
 show(if HB text lim pos=true then _ else _)=_
 induction HB text lim pos using za <;>rfl
theorem Wo(h:code.getD pc 0=6)(h1:code.getD (pc+1) 0=10)(he:HB text lim pos=true)(hB:B code text lim start z n (pc+2) pos I L r):B code text lim start z (n+1) pc pos I L r:=fun hd om F w sn N Q hw k=>
 zg (H2 h h1) fun sn' e=>R.step (e.trans (by rw[he];rfl)) (hB hd om F w sn' N Q (w3 hw) k)
theorem Ov(h:code.getD pc 0=6)(h1:code.getD (pc+1) 0=10)(he:HB text lim pos=false):B code text lim start z 1 pc pos I L none:=fun hd om F w sn N Q hw k=>
 zg (H2 (pos:=pos) (hd:=hd) (om:=om) (I:=I) (L:=L) (F:=F) (w:=w) (sn:=sn) h h1) fun sn' e=>R.step (e.trans (by rw[he];rfl)) k.no
end
noncomputable def Meets(codes:Array Nat)(t:Txt)(p lim:Nat)(r:Option Nat):Prop:=∃z n,B codes t.toArray lim (p,0) z n (Sre.header codes).2 p none #[] r∧n≤16000000∧(lim - p < (Sre.header codes).1→r=none)
end
section
open PySem PySem.W PySem.Calls PyProof.Rows Builtin Builtin.Re
open Sre
theorem step_done{m:M}(h:m.outcome.isSome=true):m.step=m:=by
 unfold M.step
 rw[zX h]
theorem Dl:∀(n:Nat) {m:M},m.outcome.isSome=true→iter n m=m
 |0,_,_=>rfl
 |n+1,m,h=>by
  show iter n m.step=m
  rw[step_done h,Dl n h]
theorem FV:∀(n:Nat) (m:M),M.runFor n m=iter n m
 |0,_=>rfl
 |n+1,m=>by
  show(if m.outcome.isSome=true then m else M.runFor n m.step)=iter n m.step
  by_cases h:m.outcome.isSome=true
  ·rw[zX h,step_done h,Dl n h]
  ·rw[zP h,FV n]
theorem Lg{code text:Array Nat}{pos lim:Nat}:∃sn,forMatch code text 0 pos lim false false=mk code text lim (pos,0) (header code).2 pos pos true none #[] [] 0 (if((header code).1 !=0 && decide (pos≤lim) && decide (lim - pos < (header code).1))=true then some false else none) sn:=by
 refine⟨if(header code).2==0 then{}else({}:Sre.Seen).add 14,?_⟩
 unfold forMatch
 by_cases h:((header code).1 !=0 && decide (pos≤lim) && decide (lim - pos < (header code).1))=true
 ·rw[zX h,zX h];rfl
 ·rw[zP h,zP h];rfl
noncomputable def Got(pos:Nat)(r:Option Nat)(m:M):Prop:=match r with
 |some e=>m.outcome=some .matched∧m.handed=e∧m.start=pos∧m.marks= #[]∧m.lastmark= -1∧m.lastindex= -1
 |none=>m.outcome=some .failed
theorem ends{z:Bool}{code text:Array Nat}{pos lim n:Nat}{r:Option Nat}(hB:B code text lim (pos,0) z n (header code).2 pos none #[] r)(hn:n≤16777216)(hl:lim - pos < (header code).1→r=none):
  ∃k,k≤n+1∧Got pos r (iter k (forMatch code text 0 pos lim false false)):=by
 refine zg (Lg (code:=code) (text:=text) (pos:=pos) (lim:=lim)) fun sn e=>?_
 rw[e]
 by_cases h:((header code).1 !=0 && decide (pos≤lim) && decide (lim - pos < (header code).1))=true
 ·rw[zX h]
  have hr:r=none:=hl (z7 (zz.mp h).2)
  subst hr
  exact⟨1,by lia,rfl⟩
 ·rw[zP h]
  refine R.cast (hB pos true [] 0 sn 1 (Got pos r) (by lia) fun pc' hd' pos' om' I' L' sn' h4 _=>⟨1,zw _,?_⟩) (jy 1 n)
  induction r using zh with
  |none=>rfl
  |some e=>exact⟨rfl,h4 e rfl,rfl,rfl,rfl,rfl⟩
section
variable {prog:Program}{w:World}{A:Around}{s:Shared}{Ev:Value→Shared→Prop}
theorem Hj:∀(turns k:Nat) (m:M) (Q:M→Shared→Prop),k < 4*turns→(iter k m).outcome.isSome=true→Q (iter k m) s→wpAny (model prog w) A (reDrive turns m) Q Ev s
 |0,k,m,Q,hk,_,_=>absurd hk (by lia)
 |turns+1,k,m,Q,hk,ho,hq=>by
  unfold reDrive
  show wpAny _ _ (if(M.runFor reTurnSteps m).outcome.isSome=true then _ else _) _ _ _
  rw[FV]
  have e4:reTurnSteps=4:=rfl
  rw[e4]
  by_cases h:(iter 4 m).outcome.isSome=true
  ·rw[zX h]
   refine zG ?_
   have:iter 4 m=iter k m:=by
    rcases Nat.le_total k 4 with h1 |h1
    ·refine zg (Jz h1) fun j e=>?_
     rw[←e,DT,Dl j ho]
    ·refine zg (Jz h1) fun j e=>?_
     rw[←e,DT,Dl j h]
   rw[this];exact hq
  ·rw[zP h]
   have h1:4 < k:=by
    apply jM
    intro hc
    refine zg (Jz (show k≤4 by lia)) fun j e=>?_
    apply h
    rw[←e,DT,Dl j ho];exact ho
   refine zg (Jz (Jb h1)) fun j e=>?_
   rw[←e,DT]at ho hq
   exact zn (qe (Hj turns j (iter 4 m) Q (by lia) ho hq))
theorem KK{M':Model}{β:Type}{f:β→PUnit→Sem (ForInStep PUnit)}(hf:∀b (Q:ForInStep PUnit→Shared→Prop),Q (.yield ⟨⟩) s→wpAny M' A (f b ⟨⟩) Q Ev s){Q:PUnit→Shared→Prop}(h:Q ⟨⟩ s):∀l:List β,wpAny M' A (forIn l (⟨⟩:PUnit) f) Q Ev s
 |[]=>by rw[List.forIn_nil];exact zG h
 |b::l=>by
  rw[Jl]
  exact zn (hf b _ (KK hf h l))
theorem SL{pos:Nat}{r:Option Nat}{m:M}{k:Nat}(hk:k < 4*2 ^ 64)(g:Got pos r (iter k m)){Q:Option M→Shared→Prop}(hq:match r with |some e=>∀m,Got pos (some e) m→Q (some m) s |none=>Q none s):wpAny (model prog w) A (reRunToEnd m) Q Ev s:=by
 unfold reRunToEnd
 refine zn (Hj _ k m _ hk ?_ ?_)
 ·induction r using zh with
  |none=>rw[show(iter k m).outcome=some .failed from g];rfl
  |some e=>rw[g.1];rfl
 ·refine zn (KK (fun b Q hQ=>?_) ?_ _)
  ·by_cases hc:(iter k m).seen.has b=true
   ·rw[zX hc];exact zn (qe (zG hQ))
   ·rw[zP hc];exact zG hQ
  ·induction r using zh with
   |none=>rw[show(iter k m).outcome=some .failed from g];exact zG hq
   |some e=>rw[g.1];exact zG (hq _ g)
end
end
section
open PySem PySem.W PySem.Calls PyProof.Rows Builtin Builtin.Re
section
variable {prog:Program}{w:World}{A:Around}{s:Shared}{Ev:Value→Shared→Prop}
noncomputable abbrev G5(p0 fl:Value)(ct:Addr)(sl:Array (Option Value)):Obj:=⟨.type "re.Pattern",none,.fields #[p0,fl,rawInt 0,.none,.none,.ref ct,rawInt 0],sl⟩
theorem L7{p:Nat}{u:Tok}(hp:p≤Az){Q:Int→Shared→Prop}(h:Q (p:Int) s):wpAny (model prog w) A (reSsize (.int (.ofNat p) u)) Q Ev s:=by
 unfold reSsize asIndex
 refine zn (zn (m:=asInt? (.int (.ofNat p) u)) (zG ?_))
 refine zG ?_
 have hL:=BO
 have e:Int.ofNat p=(p:Int):=rfl
 have hd:(decide (Int.ofNat p < -(2 ^ 63)) || decide (Int.ofNat p≥2 ^ 63))=false:=by
  rw[jS,e]
  refine⟨zJ ?_,zJ ?_⟩
  ·have:(0:Int)≤2 ^ 63:=by decide
   lia
  ·have:(16777216:Int) < 2 ^ 63:=by decide
   lia
 show wpAny _ _ (if(decide (Int.ofNat p < -(2 ^ 63)) || decide (Int.ofNat p≥2 ^ 63))=true then _ else _) _ _ _
 rw[hd]
 exact zG h
theorem Fl(codes:Array Nat):Array.map (fun x=>x.toNat) (Array.map reRawOf ((some (Array.map (fun w:Nat=>rawInt (w:Int)) codes)).getD #[]))=codes:=by
 simp[reRawOf,rawInt,Function.comp_def]
theorem NQ{n:Nat}(h:n≤Az):Min.min (2 ^ 63 - 1:Int).toNat n=n:=by
 have hL:=BO
 have:(16777216:Int) < 2 ^ 63 - 1:=by decide
 exact J3 (by lia)
variable {pat ct:Addr}{p0 fl:Value}{sl sl2:Array (Option Value)}{codes:Array Nat}{n:Nat}{t:Txt}{tk u u':Tok}{id nm:String}
theorem Hk(hp:s.heap.get? pat=some (G5 p0 fl ct sl))
  (hc:s.heap.get? ct=some ⟨.type "tuple",none,.seq (codes.map fun w:Nat=>rawInt w) n,sl2⟩) {Q:ReTarget→Shared→Prop}
  (h:Q {pattern:=.ref pat,string:=.str ⟨t.toArray⟩ tk,code:=codes,text:=t.toArray,kind:=0,groups:=0,pos:=0,lim:=t.length} s) (hl:t.length≤Az):
  wpAny (model prog w) A (reTarget id nm ⟨[.ref pat,.str ⟨t.toArray⟩ tk],[]⟩) Q Ev s:=by
 unfold reTarget reNamed
 repeat (any_goals (first |assumption |wp_step))
 have e2:(fun i:Int=>Min.min i.toNat (⟨t.toArray⟩:Str).cps.size) (2 ^ 63 - 1)=t.length:=by
  show Min.min _ t.toArray.size=_
  rw[zY];exact NQ hl
 have e3:(fun i:Int=>Min.min i.toNat (⟨t.toArray⟩:Str).cps.size) 0=0:=JP _
 rw[Fl,e2,e3]
 exact h
theorem Hl{p:Nat}(hp:s.heap.get? pat=some (G5 p0 fl ct sl))
  (hc:s.heap.get? ct=some ⟨.type "tuple",none,.seq (codes.map fun w:Nat=>rawInt w) n,sl2⟩) {Q:ReTarget→Shared→Prop}
  (h:Q {pattern:=.ref pat,string:=.str ⟨t.toArray⟩ tk,code:=codes,text:=t.toArray,kind:=0,groups:=0,pos:=p,lim:=t.length} s) (hl:t.length≤Az) (hpl:p≤t.length):
  wpAny (model prog w) A (reTarget id nm ⟨[.ref pat,.str ⟨t.toArray⟩ tk,.int (.ofNat p) u],[]⟩) Q Ev s:=by
 unfold reTarget reNamed
 repeat (any_goals (first |assumption |((with_reducible show wpAny _ _ (reSsize _) _ _ _);refine L7 (zl hpl hl) ?_) |wp_step))
 have e2:(fun i:Int=>Min.min i.toNat (⟨t.toArray⟩:Str).cps.size) (2 ^ 63 - 1)=t.length:=by
  show Min.min _ t.toArray.size=_
  rw[zY];exact NQ hl
 have e3:(fun i:Int=>Min.min i.toNat (⟨t.toArray⟩:Str).cps.size) (p:Int)=p:=by
  show Min.min (p:Int).toNat t.toArray.size=_
  rw[zY];exact jd hpl
 rw[Fl,e2,e3]
 exact h
theorem Hm{p q:Nat}(hp:s.heap.get? pat=some (G5 p0 fl ct sl))
  (hc:s.heap.get? ct=some ⟨.type "tuple",none,.seq (codes.map fun w:Nat=>rawInt w) n,sl2⟩) {Q:ReTarget→Shared→Prop}
  (h:Q {pattern:=.ref pat,string:=.str ⟨t.toArray⟩ tk,code:=codes,text:=t.toArray,kind:=0,groups:=0,pos:=p,lim:=q} s) (hl:t.length≤Az) (hpl:p≤t.length) (hql:q≤t.length):
  wpAny (model prog w) A (reTarget id nm ⟨[.ref pat,.str ⟨t.toArray⟩ tk,.int (.ofNat p) u,.int (.ofNat q) u'],[]⟩) Q Ev s:=by
 unfold reTarget reNamed
 repeat (any_goals (first |assumption |((with_reducible show wpAny _ _ (reSsize _) _ _ _);refine L7 (by first |exact zl hpl hl |exact zl hql hl) ?_) |wp_step))
 have e2:(fun i:Int=>Min.min i.toNat (⟨t.toArray⟩:Str).cps.size) (q:Int)=q:=by
  show Min.min (q:Int).toNat t.toArray.size=_
  rw[zY];exact jd hql
 have e3:(fun i:Int=>Min.min i.toNat (⟨t.toArray⟩:Str).cps.size) (p:Int)=p:=by
  show Min.min (p:Int).toNat t.toArray.size=_
  rw[zY];exact jd hpl
 rw[Fl,e2,e3]
 exact h
theorem Gm{b pos lim e:Nat}{st:Value}{m:Sre.M}(g:m.outcome=some .matched∧m.handed=e∧m.start=b∧m.marks= #[]∧m.lastmark= -1∧m.lastindex= -1){Q:Value→Shared→Prop}(h:Q (.ref (s.heap.objs.size+1)) {s with heap:=(s.heap.push (seqObj true [rawInt b,rawInt e] 0)).push (DF st (.ref pat) pos lim (-1) s.heap.objs.size)}):
  wpAny (model prog w) A (reNewMatch (.ref pat) st 0 pos lim m) Q Ev s:=by
 refine Zg g fun _ g1 g2 g3 g4 g5=>?_
 unfold reNewMatch newFields newTuple
 rw[g1,g2,g5]
 repeat (any_goals (first |assumption |wp_step))
 have e1:∀g:Nat→List Value,List.flatMap g (List.range 0)=[]:=fun _=>rfl
 have e2:∀o,(s.heap.push o).objs.size=s.heap.objs.size+1:=fun o=>by simp[Heap.push]
 rw[e1,e2]
 exact h
end
theorem Ci:Manifest.owners.lookup (String.ofList ['n','r','e','t','t','a','P','.','e','r'].reverse)=some Manifest.sig_re_Pattern:=by kernel_rfl
theorem Mz:builtinKind "re.Pattern.match"=some .method:=by decide+kernel
theorem IG(a b:Value):A5 "re.Pattern.match" "Pattern.match" ⟨[a,b],[]⟩:=by
 unfold A5;rw[Jt (id:="re.Pattern.match") (n:=['h','c','t','a','m']) (o:=['n','r','e','t','t','a','P','.','e','r']) (by kernel_rfl) Ci];kernel_rfl
theorem II(a b c:Value):A5 "re.Pattern.match" "Pattern.match" ⟨[a,b,c],[]⟩:=by
 unfold A5;rw[Jt (id:="re.Pattern.match") (n:=['h','c','t','a','m']) (o:=['n','r','e','t','t','a','P','.','e','r']) (by kernel_rfl) Ci];kernel_rfl
theorem IJ(a b c d:Value):A5 "re.Pattern.match" "Pattern.match" ⟨[a,b,c,d],[]⟩:=by
 unfold A5;rw[Jt (id:="re.Pattern.match") (n:=['h','c','t','a','m']) (o:=['n','r','e','t','t','a','P','.','e','r']) (by kernel_rfl) Ci];kernel_rfl
theorem FP:entryFor table "re.Pattern.match"=some Builtin.«re.Pattern.match»:=Jy (by kernel_rfl)
theorem Q0:typeLookup (.type "re.Pattern") "match"=pure (some (.builtin "re.Pattern.match")):=by rw[jC,jb];kernel_rfl
theorem EB:Slot "re.Pattern" "match" "re.Pattern.match":=
 .of (owner:="re.Pattern") (n:="match") Q0 (by decide+kernel) (by decide+kernel) (by decide+kernel)
  (by first |exact .inl (by decide+kernel) |exact .inr (by decide+kernel)) (by rw[j9];kernel_rfl)
theorem SF:typeOf (.builtin "re.Pattern.match")=pure (.type "method_descriptor"):=by show builtinType _=_;rw[JW];kernel_rfl
theorem KR(a b:Value):argsOk "re.Pattern.match" ⟨[a,b],[]⟩:=by
 unfold argsOk;rw[Jt (id:="re.Pattern.match") (n:=['h','c','t','a','m']) (o:=['n','r','e','t','t','a','P','.','e','r']) (by kernel_rfl) Ci];kernel_rfl
theorem XO:typeLookup (.type "re.Pattern") "__getattribute__"=pure (some (.builtin "object.__getattribute__")):=by rw[jC,jb];kernel_rfl
theorem O3:typeLookup (.type "re.Pattern") "__getattr__"=pure none:=by rw[jC,jb];kernel_rfl
theorem XM:PlainAttrs "re.Pattern":=⟨⟨_,XO,by decide+kernel⟩,O3⟩
structure FN(K:Frag)(pat:Addr)(codes:Array Nat):Prop where
 at_:∃p0 fl ct sl sl2 n,K.lookup pat=some (G5 p0 fl ct sl)∧K.lookup ct=some ⟨.type "tuple",none,.seq (codes.map fun w:Nat=>rawInt w) n,sl2⟩
section
variable {c:Cx}{f:Fx}{A:Around}{R:Rec}{σ:St}{s:Shared}{pat:Addr}{codes:Array Nat}
theorem FE{Ev:Value→Shared→Prop}(r:Al c f R σ s.heap){t:Txt}{tk:Tok}{rest:List Value}{p lim:Nat}{res:Option Nat}{v:Val}(M:Meets codes t p lim res)(hv:CL p res=some v)
  (ht:∀(Q:ReTarget→Shared→Prop) (A:Around),Q {pattern:=.ref pat,string:=.str ⟨t.toArray⟩ tk,code:=codes,text:=t.toArray,kind:=0,groups:=0,pos:=p,lim:=lim} s→wpAny (model c.prog c.w) A (reTarget "re.Pattern.match" "match" ⟨.ref pat::.str ⟨t.toArray⟩ tk::rest,[]⟩) Q Ev s)
  {Q:Value→Shared→Prop} (hq:∀R' rv s',R.le R'→Ar s s'→Al c f R' σ s'.heap→c.V R' v rv→Q rv s'):
  wpAny (model c.prog c.w) A (Builtin.«re.Pattern.match» ⟨.ref pat::.str ⟨t.toArray⟩ tk::rest,[]⟩) (fun fin s'=>∃v,fin=.done (.ret v)∧Q v s') Ev s:=by
 unfold Builtin.«re.Pattern.match»
 refine zn (ht _ _ ?_)
 unfold reAnswer
 refine Ba M fun z n hB hn hl=>?_
 refine Ab (ends hB (by lia) hl) fun k hk g=>?_
 refine zn (SL (r:=res) (k:=k) ?_ g ?_)
 ·have:16000001 < 4*2 ^ 64:=by decide
  lia
 ·induction res using zh with
  |none=>
   cases hv
   exact zG ⟨_,rfl,hq R _ s (.refl R) (.refl s) r .none⟩
  |some e=>
   cases hv
   intro m g
   refine zn (Gm g ?_)
   refine zG ⟨_,rfl,?_⟩
   refine Aq r ?_;clear r;intro mm led r
   refine Gw (r.frozen (r.F.push (seqObj true [rawInt p,rawInt e] 0)) (JZ r.F r.N (seqObj true [rawInt p,rawInt e] 0)) (fun p hp=>jv (r.N p hp).1)) fun R1 le1 r1 z1 _ _=>?_
   have hsz:(s.heap.push (seqObj true [rawInt p,rawInt e] 0)).objs.size=s.heap.objs.size+1:=by simp[Heap.push]
   refine Gw (r1.frozen (r1.F.push (DF (.str ⟨t.toArray⟩ tk) (.ref pat) p lim (-1) s.heap.objs.size)) (JZ r1.F r1.N (DF (.str ⟨t.toArray⟩ tk) (.ref pat) p lim (-1) s.heap.objs.size)) (fun p hp=>jv (r1.N p hp).1)) fun R2 le2 r2 z2 _ _=>?_
   rw[hsz]at z2
   exact hq R2 _ _ (le1.trans le2) AB ⟨_,_,r2⟩ (.mt (.inr z2) (Cx.Z.mono le2 _ _ (.inr z1)))
end
end
section
open PySem PySem.W PySem.Calls PyProof.Rows Builtin Builtin.Re
section
variable {c:Cx}{S:Sx}
structure Ht(K:Frag)(q:Addr)(codes:Array Nat):Prop where
 at_:∃pat,K.lookup q=some (KV "re.Pattern.match" (.ref pat))∧FN K pat codes
inductive EH:List Val→Txt→Nat→Nat→Prop
 |one (t:Txt):EH [.str t] t 0 t.length
 |two (t:Txt) (p:Nat) (h:p≤t.length):EH [.str t,.int (.ofNat p)] t p t.length
 |three (t:Txt) (p q:Nat) (h:p≤t.length) (h':q≤t.length):EH [.str t,.int (.ofNat p),.int (.ofNat q)] t p q
theorem FL{R:Rec}{h:Heap}{i:Int}{v:Value}(x:VH c R h (.int i) v):∃t,v=.int i t:=by
 cases x with |of y=>cases y;exact⟨_,rfl⟩
theorem EE{R:Rec}{h:Heap}{t:Txt}{v:Value}(x:VH c R h (.str t) v):∃tk,v=.str ⟨t.toArray⟩ tk∧t.length≤Az:=by
 cases x with |of y=>cases y with |str _ tk hl=>exact⟨_,rfl,hl⟩
theorem N7{f:Fx}{B':Around}{R:Rec}{σ:St}{s:Shared}{pat:Addr}{codes:Array Nat}{Ev:Value→Shared→Prop}(P:FN c.K pat codes)(X:c.K.In s.heap)(r:Al c f R σ s.heap){ws:List Val}{vs:List Value}{t:Txt}{p lim:Nat}{res:Option Nat}{v:Val}
  (as:EH ws t p lim) (hvs:Mc c R s.heap ws vs) (M:Meets codes t p lim res) (hv:CL p res=some v) {Q:Value→Shared→Prop} (hq:∀R' rv s',R.le R'→Ar s s'→Al c f R' σ s'.heap→c.V R' v rv→Q rv s'):
  wpAny (model c.prog c.w) B' (Builtin.«re.Pattern.match» ⟨.ref pat::vs,[]⟩) (fun fin s'=>∃v,fin=.done (.ret v)∧Q v s') Ev s:=by
 refine EG P.at_ fun p0 fl ct sl sl2 h0=>Ab h0 fun n k1 k2=>?_
 have g1:=X _ _ k1
 have g2:=X _ _ k2
 cases as with
 |one=>
  cases hvs with |cons a b=>cases b with |nil=>
  refine Ab (EE a) fun tk hq1 hl=>?_;subst hq1
  exact FE (rest:=[]) r M hv (fun Q A h=>Hk g1 g2 h hl) hq
 |two _ p hp=>
  cases hvs with |cons a b=>cases b with |cons a' b=>cases b with |nil=>
  refine Ab (EE a) fun tk hq1 hl=>?_;subst hq1
  refine zg (FL a') fun u hq1=>?_;subst hq1
  exact FE (rest:=[.int (.ofNat p) u]) r M hv (fun Q A h=>Hl g1 g2 h hl hp) hq
 |three _ p q hp hp'=>
  cases hvs with |cons a b=>cases b with |cons a' b=>cases b with |cons a'' b=>cases b with |nil=>
  refine Ab (EE a) fun tk hq1 hl=>?_;subst hq1
  refine zg (FL a') fun u hq1=>?_;subst hq1
  refine zg (FL a'') fun u' hq1=>?_;subst hq1
  exact FE (rest:=[.int (.ofNat p) u,.int (.ofNat lim) u']) r M hv (fun Q A h=>Hm g1 g2 h hl hp hp') hq
theorem Ox{ws:List Val}{vs:List Value}{t:Txt}{p lim:Nat}{R:Rec}{h:Heap}(as:EH ws t p lim)(hvs:Mc c R h ws vs)(a:Value):A5 "re.Pattern.match" "Pattern.match" ⟨a::vs,[]⟩:=by
 cases as with
 |one=>cases hvs with |cons _ b=>cases b with |nil=>exact IG _ _
 |two=>cases hvs with |cons _ b=>cases b with |cons _ b=>cases b with |nil=>exact II _ _ _
 |three=>cases hvs with |cons _ b=>cases b with |cons _ b=>cases b with |cons _ b=>cases b with |nil=>exact IJ _ _ _ _
theorem Og:isSubtype (.type "re.Pattern") (.type "module")=pure false:=by rw[j9];kernel_rfl
theorem SK:Manifest.varargsMethods.contains "re.Pattern.match"=false:=by decide+kernel
theorem Mw:s!"{Bind.lastOf "re.Pattern"}.{Bind.lastOf "re.Pattern.match"}"="Pattern.match":=by kernel_rfl
theorem LK{p0 fl:Value}{ct:Addr}{sl:Array (Option Value)}:∀cd,(G5 p0 fl ct sl).data≠ .cls cd:=fun _ h=>by cases h
theorem VB{n:Str}{q:Addr}{codes:Array Nat}{sem:List Val→Option Val}(g:KL c S n (.ref q))(P:Ht c.K q codes)(hs:∀ws v,sem ws=some v→∃t p lim res,EH ws t p lim∧Meets codes t p lim res∧CL p res=some v):Bb c S n sem:=by
 intro d f A X R σ s a npos pos x xs Ev Q hp h
 rw[Au]
 refine zn (Er a g ?_)
 refine Ab P.at_ fun pat k1 Pp=>?_
 refine callWith_bound (id:="re.Pattern.match") (self:=.ref pat) hp (zZ h (fun vs s₁ h₁=>?_) fun _ _ x=>x)
 refine DE h₁ fun R₁ σ₁ ws hvs h=>BM h fun v hv a₁ hq=>?_
 have r₁:=a₁.r
 refine Aq a₁.r fun m led r=>?_
 have Xs:c.K.In s₁.heap:=a₁.G.X.keeps r.F.keep
 refine eX (hs ws v hv) fun t p lim res as M hm=>?_
 refine⟨Xs _ _ k1,?_⟩
 refine EG Pp.at_ fun p0 fl ct sl sl2 h0=>Ab h0 fun nn e1 e2=>?_
 have hrun:wpAny (model c.prog c.w) A.in1 (Builtin.«re.Pattern.match» ⟨.ref pat::vs,[]⟩) (fun fin s'=>∃v,fin=.done (.ret v)∧Q v s') Ev s₁:=N7 Pp Xs r₁ as hvs M hm hq
 have hchk:wpAny (model c.prog c.w) A.in1 (checkBoundCall "re.Pattern.match" ⟨.ref pat::vs,[]⟩) (fun _ s₁=>wpAny (model c.prog c.w) A.in1 (Builtin.«re.Pattern.match» ⟨.ref pat::vs,[]⟩) (fun fin s'=>∃v,fin=.done (.ret v)∧Q v s') Ev s₁) Ev s₁:=
  @DP c.prog c.w A.in1 s₁ (fun _ s₁=>wpAny (model c.prog c.w) A.in1 (Builtin.«re.Pattern.match» ⟨.ref pat::vs,[]⟩) (fun fin s'=>∃v,fin=.done (.ret v)∧Q v s') Ev s₁) Ev "re.Pattern.match" "re.Pattern" "Pattern.match" (.ref pat) pat vs _ rfl (Xs _ _ e1) rfl LK Mz (Ox as hvs (.ref pat)) Og SK Mw hrun
 exact Ep (Xs _ _ k1) EB.plain FP hchk
theorem Ve{n:Str}{pat:Addr}{codes:Array Nat}{sem:Val→Option Val}{x:PySem.Expr}{p q q':Pos}(g:KL c S n (.ref pat))(P:FN c.K pat codes)(hp:Ag x=true)(hl:(q.endLine==p.line)=true)
  (hs:∀w v,sem w=some v→∃t res,w=.str t∧Meets codes t 0 t.length res∧CL 0 res=some v):EM c S x (.Call (.Attribute (.Name n q') "match" q) [x] [] p) sem:=by
 intro d f A X R σ s a Ev Q h
 refine Bq (fun _ _ _=>rfl) (CB hp) (by show 1 < 25;decide) hl (Er a g fun pl=>?_)
 refine EG P.at_ fun p0 fl ct sl sl2 h0=>Ab h0 fun nn k1 k2=>?_
 have Xs:∀{R σ s},At c S d f A X R σ s→c.K.In s.heap:=fun a=>by
  refine Aq a.r fun m led r=>?_
  exact a.G.X.keeps r.F.keep
 have hT:s.TypeIs (.ref pat) "re.Pattern":=⟨_,Xs a _ _ k1,rfl⟩
 refine getMethod_builtin hT XM EB SF (fun a' e'=>by cases e';exact⟨_,Xs a _ _ k1,rfl⟩) ?_
 refine jQ (je (zZ h (fun v s₁ h₁=>?_) fun _ _ x=>x) (Aa hp)) (Aa hp) (Aw rfl)
 refine DE h₁ fun R₁ σ₁ w hw h=>BM h fun r hr a₁ hq=>?_
 refine Ba (hs w r hr) fun t res hq2 M hm=>?_;subst hq2
 refine Ab (EE hw) fun tk hq1 hlen=>?_;subst hq1
 refine jT ?_
 exact JM EB ⟨_,Xs a₁ _ _ k1,rfl⟩ FP (N7 P (Xs a₁) a₁.r (.one t) (.cons hw .nil) M hm hq) (KR _ _)
end
end
section
open PySem PySem.Sre
noncomputable def Py(code:Array Nat)(n i c:Nat)(yes b:Bool):Prop:=∀f sn,∃sn',inSet code c (f+n) i yes sn=.ok (b,sn')
section
variable {code:Array Nat}{n i c v:Nat}{yes b:Bool}
theorem CJ(h:code.getD i 0=0):Py code 1 i c yes (!yes):=by
 intro f sn
 conv=>enter [1,sn',1];whnf;dsimp only[JB]
 refine h.symm▸?_
 exact⟨_,rfl⟩
theorem Eu(h:code.getD i 0=21)(hn:Py code n (i+1) c (!yes) b):Py code (n+1) i c yes b:=by
 intro f sn
 rw[←zT]
 conv=>enter [1,sn',1];whnf;dsimp only[JB]
 refine h.symm▸?_
 exact hn f _
theorem DS(h:code.getD i 0=16)(h1:code.getD (i+1) 0=v)(hn:Py code n (i+2) c yes b):Py code (n+1) i c yes (cond (c==v) yes b):=by
 subst h1
 intro f sn
 rw[←zT]
 conv=>enter [1,sn',1];whnf;dsimp only[JB]
 refine h.symm▸?_
 show∃sn',(if(c==code.getD (i+1) 0)=true then _ else _)=_
 induction(c==code.getD (i+1) 0)using za with
 |true=>exact⟨_,rfl⟩
 |false=>exact hn f _
theorem Xc(h:code.getD i 0=8)(h1:code.getD (i+1) 0=12)(hn:Py code n (i+2) c yes b):Py code (n+1) i c yes (cond (Unicode.isSpace c) yes b):=by
 intro f sn
 rw[←zT]
 conv=>enter [1,sn',1];whnf;dsimp only[JB]
 refine h.symm▸?_
 show∃sn',(category (code.getD (i+1) 0) c >>=_)=_
 rw[h1]
 show∃sn',(if(Unicode.isSpace c !=false)=true then _ else _)=_
 induction Unicode.isSpace c using za with
 |true=>exact⟨_,rfl⟩
 |false=>exact hn f _
theorem Tz(h:code.getD i 0=8)(h1:code.getD (i+1) 0=13)(hn:Py code n (i+2) c yes b):Py code (n+1) i c yes (cond (!Unicode.isSpace c) yes b):=by
 intro f sn
 rw[←zT]
 conv=>enter [1,sn',1];whnf;dsimp only[JB]
 refine h.symm▸?_
 show∃sn',(category (code.getD (i+1) 0) c >>=_)=_
 rw[h1]
 show∃sn',(if(Unicode.isSpace c !=true)=true then _ else _)=_
 induction Unicode.isSpace c using za with
 |false=>exact⟨_,rfl⟩
 |true=>exact hn f _
theorem GS(h:code.getD i 0=9)(hn:Py code n (i+9) c yes b):Py code (n+1) i c yes (cond (decide (c < 256) && (code.getD (i+(1+c / 32)) 0).testBit (c % 32)) yes b):=by
 intro f sn
 rw[←zT]
 conv=>enter [1,sn',1];whnf;dsimp only[JB]
 refine h.symm▸?_
 show∃sn',(if(decide (c < 256) && (code.getD (i+(1+c / 32)) 0).testBit (c % 32))=true then _ else _)=_
 induction(decide (c < 256) && (code.getD (i+(1+c / 32)) 0).testBit (c % 32))using za with
 |true=>exact⟨_,rfl⟩
 |false=>exact hn f _
noncomputable def Acc(code:Array Nat)(pc:Nat)(a:Nat→Bool):Prop:=∀c sn,∃sn',accepts code pc c sn=.ok (a c,sn')
theorem CD{pc:Nat}{a:Nat→Bool}(h:code.getD pc 0=13)(hn:∀c,Py code n (pc+2) c true (a c))(hs:n≤code.size):Acc code pc a:=by
 intro c sn
 unfold accepts
 rw[h]
 show∃sn',inSet code c code.size (pc+2) true sn=_
 refine zg (Jz hs) fun f e=>?_
 rw[←e,jy]
 exact hn c f sn
theorem Cl{pc:Nat}(h:code.getD pc 0=16)(h1:code.getD (pc+1) 0=v):Acc code pc (fun c=>c==v):=by
 intro c sn
 unfold accepts
 rw[h,h1]
 exact⟨_,rfl⟩
theorem SZ{pc:Nat}(h:code.getD pc 0=2):Acc code pc (fun c=>c !=10):=by
 intro c sn
 unfold accepts
 rw[h]
 exact⟨_,rfl⟩
theorem Ni{pc:Nat}(h:code.getD pc 0=3):Acc code pc (fun _=>true):=by
 intro c sn
 unfold accepts
 rw[h]
 exact⟨_,rfl⟩
theorem Acc.congr{pc:Nat}{a b:Nat→Bool}(h:Acc code pc a)(e:∀c,a c=b c):Acc code pc b:=fun c sn=>by
 rw[←e];exact h c sn
end
end
section
open PySem PySem.Sre
noncomputable def Af(a:Nat→Bool):Txt→Nat
 |[]=>0
 |c::r=>cond (a c) (Af a r+1) 0
theorem KC{a:Nat→Bool}{c:Nat}{r:Txt}(h:a c=true):Af a (c::r)=Af a r+1:=by
 show cond (a c) _ _=_
 rw[h];rfl
theorem KB{a:Nat→Bool}{c:Nat}{r:Txt}(h:a c=false):Af a (c::r)=0:=by
 show cond (a c) _ _=_
 rw[h];rfl
theorem B7(a:Nat→Bool)(s:Txt):Af a s≤s.length:=by
 induction s with
 |nil=>exact zw _
 |cons c r ih=>induction h:a c using za with
  |true=>rw[KC h];exact zN ih
  |false=>rw[KB h];exact zH _
theorem Sg{a:Nat→Bool}{s:Txt}:∀{i:Nat},i < Af a s→∃c r,s.drop i=c::r∧a c=true:=by
 induction s with
 |nil=>exact fun h=>absurd h (jt _)
 |cons c r ih=>
  intro i h
  induction q:a c using za with
  |false=>rw[KB q]at h;exact absurd h (jt _)
  |true=>
   rw[KC q]at h
   induction i using zE with
   |zero=>exact⟨c,r,rfl,q⟩
   |succ i=>exact ih (jB h)
theorem Il{a:Nat→Bool}{s:Txt}:∀{c:Nat} {r:Txt},s.drop (Af a s)=c::r→a c=false:=by
 induction s with
 |nil=>exact fun h=>nomatch h
 |cons x y ih=>
  intro c r h
  induction q:a x using za with
  |false=>rw[KB q]at h;exact(z9 h).1▸q
  |true=>rw[KC q]at h;exact ih h
structure Pt(t:Txt)(lim pos:Nat)(s:Txt):Prop where
 le:pos≤lim
 lt:lim≤t.length
 eq:(t.take lim).drop pos=s
 few:t.length≤100000
section
variable {t s r:Txt}{lim pos c:Nat}
theorem Pt.len(h:Pt t lim pos s):s.length=lim - pos:=by
 rw[←h.eq,z4,jo,jd h.lt]
theorem Pt.cons(h:Pt t lim pos (c::r)):pos < lim∧t.toArray.getD pos 0=c∧Pt t lim (pos+1) r:=by
 have hlt:pos < lim:=Nat.lt_of_sub_pos (by rw[←h.len];exact jl _)
 have hg:(t.take lim)[pos]? =some c:=JI.symm.trans (zB List.head? h.eq)
 rw[List.getElem?_take_of_lt hlt]at hg
 exact⟨hlt,by rw[jY,ji,hg];rfl,hlt,h.lt,by rw[←ja,h.eq];rfl,h.few⟩
theorem Pt.nil(h:Pt t lim pos []):pos=lim:=J9 h.le (Jo h.len.symm)
theorem Pt.drop(h:Pt t lim pos s){k:Nat}(hk:k≤s.length):Pt t lim (pos+k) (s.drop k):=
 ⟨j6 h.le (h.len▸hk),h.lt,by rw[←ja,h.eq],h.few⟩
theorem Pt.run(a:Nat→Bool):∀{pos:Nat},Pt t lim pos s→runN a t.toArray (lim - pos) pos=Af a s:=by
 induction s with
 |nil=>
  intro pos h
  rw[h.nil,jW];rfl
 |cons c r ih=>
  intro pos h
  refine Bi h.cons fun h1 h2 h3=>?_
  rw[show lim - pos=lim - (pos+1)+1 from h.len.symm.trans (zB Nat.succ h3.len)]
  show cond (a (t.toArray.getD pos 0)) (runN a t.toArray (lim - (pos+1)) (pos+1)+1) 0=cond (a c) (Af a r+1) 0
  rw[h2,ih h3]
theorem Pt.iv(a:Nat→Bool):∀{s:Txt},Pt t lim pos s→runN a t.toArray (min 1 (lim - pos)) pos=match s with |c::_=>cond (a c) 1 0 |[]=>0
 |[],h=>by
  show runN a t.toArray (min 1 (lim - pos)) pos=0
  rw[h.nil,jW];rfl
 |c::r,h=>by
  rw[←h.len,show min 1 (c::r).length=1 from jd (zN (zH r.length))]
  show cond (a (t.toArray.getD pos 0)) 1 0=_
  rw[h.cons.2.1]
theorem Pt.runM(a:Nat→Bool)(h:Pt t lim pos s):runN a t.toArray (min 4294967295 (lim - pos)) pos=Af a s:=by
 rw[J3 (zl (jJ _ _) (zl h.lt (zl h.few (by decide))))];exact h.run a
end
section
variable {z:Bool}{code:Array Nat}{t s:Txt}{lim pc pos n:Nat}{start:SP}{I:Option Nat}{L:Array Loop}{r:Option Nat}{a:Nat→Bool}
theorem Cu(h:Ej (code.getD pc 0)=true)(ha:Acc code pc a){c:Nat}{s:Txt}(hp:Pt t lim pos (c::s))(hy:a c=true){k:Nat}(hw:itemWidth code pc=k)(hB:B code t.toArray lim start z n (pc+k) (pos+1) I L r):B code t.toArray lim start z (n+1) pc pos I L r:=by
 refine Bi hp.cons fun h1 h2 h3=>?_
 exact ZA h ha h1 (by rw[h2];exact hy) hw hB
theorem Dp(h:Ej (code.getD pc 0)=true)(ha:Acc code pc a)(hp:Pt t lim pos s)(hy:∀c r,s=c::r→a c=false):B code t.toArray lim start z 1 pc pos I L none:=by
 refine PV h ha fun hl=>?_
 induction s using zi with
 |nil=>exact absurd hp.nil (Ja hl)
 |cons c s=>
  refine Bi hp.cons fun h1 h2 h3=>?_
  rw[h2];exact hy c s rfl
theorem Fc(h:code.getD pc 0=24){least skip e:Nat}(h1:code.getD (pc+1) 0=skip)(h2:code.getD (pc+2) 0=least)(h3:code.getD (pc+3) 0=4294967295)(ha:Acc code (pc+4) a)(hp:Pt t lim pos s)(hl:least≤Af a s)
  (hB:B code t.toArray lim start z n (pc+1+skip) (pos+Af a s) I L (some e)):B code t.toArray lim start z (n+2) pc pos I L (some e):=
 HS h h1 h2 h3 ha hp.le (hp.runM a) hl hB
theorem Dq(h:code.getD pc 0=24){least skip c K:Nat}(h1:code.getD (pc+1) 0=skip)(h2:code.getD (pc+2) 0=least)(h3:code.getD (pc+3) 0=4294967295)(ha:Acc code (pc+4) a)(hp:Pt t lim pos s)
  (hT:least≤Af a s→B code t.toArray lim start z n (pc+1+skip) (pos+Af a s) I L none) (hB:∀i c' r,i < Af a s→s.drop i=c'::r→a c'=true→Pt t lim (pos+i) (c'::r)→B code t.toArray lim start z c (pc+1+skip) (pos+i) I L none) (hK:n+c+3+s.length*(c+1)≤K):B code t.toArray lim start z K pc pos I L none:=by
 have hle:=B7 a s
 refine PW (N:=Af a s) (c:=c) h h1 h2 h3 ha hp.le (hp.runM a) hT (fun i _ hi=>?_) (zl (zS (Nat.mul_le_mul_right _ hle) _) hK)
 refine A6 (Sg hi) fun c' r e hc=>?_
 have:=hp.drop (k:=i) (by lia)
 rw[e]at this
 exact hB i c' r hi e hc this
noncomputable def Gp(code:Array Nat):Nat→Txt→Prop
 |_,[]=>True
 |pc,c::r=>code.getD pc 0=16∧code.getD (pc+1) 0=c∧Gp code (pc+2) r
noncomputable def QZ(code:Array Nat):Nat→Txt→Bool
 |_,[]=>true
 |pc,c::r=>code.getD pc 0==16 && (code.getD (pc+1) 0==c && QZ code (pc+2) r)
theorem E4{code:Array Nat}{w:Txt}:∀{pc:Nat},QZ code pc w=true→Gp code pc w:=by
 induction w with
 |nil=>exact fun _=>trivial
 |cons c w ih=>
  intro pc h
  have h:=zz.mp h
  have h2:=zz.mp h.2
  exact⟨eq_of_beq h.1,eq_of_beq h2.1,ih h2.2⟩
theorem av{pc:Nat}(h:code.getD pc 0=16):itemWidth code pc=2:=by unfold itemWidth;rw[h];rfl
theorem Xk{pc:Nat}(h:code.getD pc 0=16):Ej (code.getD pc 0)=true:=by rw[h];rfl
theorem FB{w:Txt}:∀{pc pos:Nat},Gp code pc w→Pt t lim pos (w++s)→B code t.toArray lim start z n (pc+2*w.length) (pos+w.length) I L r→B code t.toArray lim start z (n+w.length) pc pos I L r:=by
 induction w with
 |nil=>exact fun _ _ hB=>hB
 |cons c w ih=>
  intro pc pos hw hp hB
  refine Bi hw fun h1 h2 h3=>?_
  refine Cu (n:=n+w.length) (Xk h1) (Cl h1 h2) hp (jF c) (av h1) (ih h3 hp.cons.2.2 ?_)
  rw[show pc+2+2*w.length=pc+2*(w.length+1) by rw[J7,j3];rfl,j3 pos 1];exact hB
theorem Cj{w:Txt}:∀{s:Txt} {pc pos:Nat},Gp code pc w→Pt t lim pos s→pre? w s=false→B code t.toArray lim start z w.length pc pos I L none:=by
 induction w with
 |nil=>exact fun _ _ h=>Bool.noConfusion h
 |cons c w ih=>
  intro s pc pos hw hp h
  refine Bi hw fun h1 h2 h3=>?_
  have no:(∀c' r,s=c'::r→(c'==c)=false)→B code t.toArray lim start z (w.length+1) pc pos I L none:=fun g=>(Dp (Xk h1) (Cl h1 h2) hp g).mono (Jx _ _)
  induction s using zi with
  |nil=>exact no fun _ _ e=>nomatch e
  |cons x s=>
   have h':cond (Nat.beq c x) (pre? w s) false=false:=h
   induction q:Nat.beq c x using za with
   |false=>
    refine no fun c' r e=>?_
    rw[←(z9 e).1]
    exact jk.mpr fun e=>by rw[e,Jd]at q;exact Bool.noConfusion q
   |true=>
    rw[q]at h'
    cases zD q
    exact Cu (n:=w.length) (Xk h1) (Cl h1 h2) hp (jF c) (av h1) (ih h3 hp.cons.2.2 h')
end
end
section
open PySem PySem.Sre
noncomputable def HW(c:Nat):Bool:=cond (c==32) true (cond (c==9) true false)
noncomputable def Ua(w a:Nat→Bool)(s:Txt)(p:Nat):Option Nat:=match s.drop (Af w s)with
 |c::_=>cond (a c) (some (p+Af w s+1)) none
 |[]=>none
theorem XK{code:Array Nat}{w a:Nat→Bool}{t s:Txt}{lim pc pos skip k:Nat}{start:SP}{I:Option Nat}{L:Array Loop}(h:code.getD pc 0=24)(h1:code.getD (pc+1) 0=skip)(h2:code.getD (pc+2) 0=0)(h3:code.getD (pc+3) 0=4294967295)(ha:Acc code (pc+4) w)
  (ho:Ej (code.getD (pc+1+skip) 0)=true) (hb:Acc code (pc+1+skip) a) (hw:itemWidth code (pc+1+skip)=k) (hs:code.getD (pc+1+skip+k) 0=1) (hwa:∀c,w c=true→a c=false) (hp:Pt t lim pos s):
  B code t.toArray lim start true (10*s.length+10) pc pos I L (Ua w a s pos):=by
 have hle:=B7 w s
 have hd:=hp.drop hle
 unfold Ua
 induction q:s.drop (Af w s)using zi with
 |nil=>
  rw[q]at hd
  exact Dq (n:=1) (c:=1) h h1 h2 h3 ha hp (fun _=>Dp ho hb hd (fun _ _ e=>nomatch e)) (fun i c' r _ _ hc hpt=>Dp ho hb hpt fun c'' r' e=>by refine Ao (z9 e) fun hq0 hq1=>?_;subst hq0;subst hq1;exact hwa _ hc) (by lia)
 |cons c r=>
  rw[q]at hd
  induction qa:a c using za with
  |true=>
   simp only[qa,jz]
   exact(Fc (n:=2) h h1 h2 h3 ha hp (zH _) (Cu (n:=1) ho hb hd qa hw (Mi hs))).mono (by lia)
  |false=>
   simp only[qa,z6]
   exact Dq (n:=1) (c:=1) h h1 h2 h3 ha hp (fun _=>Dp ho hb hd (fun _ _ e=>by refine Ao (z9 e) fun hq0 hq1=>?_;subst hq0;subst hq1;exact qa)) (fun i c' r _ _ hc hpt=>Dp ho hb hpt fun c'' r' e=>by refine Ao (z9 e) fun hq0 hq1=>?_;subst hq0;subst hq1;exact hwa _ hc) (by lia)
theorem meets{codes:Array Nat}{t:Txt}{p lim:Nat}{r:Option Nat}{z:Bool}{n:Nat}(hB:B codes t.toArray lim (p,0) z n (Sre.header codes).2 p none #[] r)(hp:Pt t lim p ((t.take lim).drop p))(hn:n≤100*((t.take lim).drop p).length+1000)(hl:((t.take lim).drop p).length < (Sre.header codes).1→r=none):Meets codes t p lim r:=by
 have h1:=hp.len
 have h2:=hp.few
 have h3:=hp.lt
 exact⟨z,n,hB,by lia,by rw[←h1];exact hl⟩
theorem Ry{w a:Nat→Bool}{s:Txt}{p:Nat}(h:s.length < 1):Ua w a s p=none:=by
 induction s using zi with
 |nil=>rfl
 |cons c r=>simp at h
theorem take_all{t:Txt}:t.take t.length=t:=jX (zw _)
end
section
open PySem PySem.Sre
noncomputable def iC(c:Nat):Bool:=cond (Unicode.isSpace c) true false
theorem iB:Unicode.isSpace 92=false:=by decide+kernel
noncomputable def ZH:Array Nat:= #[14,4,0,1,4294967295,24,9,0,4294967295,13,4,8,12,0,1,16,92,1]
noncomputable def S6(t:Txt):Option Nat:=Ua iC (fun c=>c==92) t 0
theorem gE{t:Txt}(hf:t.length≤100000):Meets ZH t 0 t.length (S6 t):=by
 have hp:Pt t t.length 0 ((t.take t.length).drop 0):=⟨zH _,zw _,rfl,hf⟩
 refine meets (n:=10*((t.take t.length).drop 0).length+10) (z:=true) ?_ hp (by lia) (fun hl=>?_)
 ·unfold S6
  have:=XK (code:=ZH) (w:=iC) (a:=fun c=>c==92) (start:=(0,0)) (pc:=5) (I:=none) (L:= #[]) (skip:=9) (k:=2) rfl rfl rfl rfl (CD (n:=2) rfl (fun c=>Xc rfl rfl (CJ rfl)) (by decide)) rfl
   (Cl rfl rfl) rfl rfl (fun c hc=>by
    induction q:c==92 using za with
    |false=>rfl
    |true=>rw[eq_of_beq q]at hc;unfold iC at hc;rw[iB]at hc;cases hc) hp
  rw[take_all,j4]at this ⊢
  exact this
 ·rw[take_all,j4]at hl
  exact Ry hl
noncomputable def EQ:Array Nat:= #[14,4,0,1,4294967295,24,17,1,4294967295,13,12,21,9,0,908,939524096,671088640,0,0,0,0,0,1,1]
noncomputable def K3(c:Nat):Bool:=cond (decide (c < 256) && (EQ.getD (12+(1+c / 32)) 0).testBit (c % 32)) false true
noncomputable def ER(t:Txt)(p q:Nat):Option Nat:=cond (Nat.ble 1 (Af K3 ((t.take q).drop p))) (some (p+Af K3 ((t.take q).drop p))) none
theorem Xu{t:Txt}{p q:Nat}(h:p≤q)(hq:q≤t.length)(hf:t.length≤100000):Meets EQ t p q (ER t p q):=by
 have hp:Pt t q p ((t.take q).drop p):=⟨h,hq,rfl,hf⟩
 have ha:Acc EQ 9 K3:=CD (n:=3) rfl (fun c=>Eu rfl (GS rfl (CJ rfl))) (by decide)
 refine meets (n:=10*((t.take q).drop p).length+10) (z:=true) ?_ hp (by lia) (fun hl=>?_)
 ·unfold ER
  induction q1:Nat.ble 1 (Af K3 ((t.take q).drop p))using za with
  |true=>
   rw[jz]
   exact(Fc (n:=1) (pc:=5) (code:=EQ) rfl rfl rfl rfl ha hp (zp q1) (Mi rfl)).mono (by lia)
  |false=>
   rw[z6]
   have h0:¬1≤Af K3 ((t.take q).drop p):=fun hc=>by rw[zt hc]at q1;cases q1
   refine Dq (n:=0) (c:=0) (pc:=5) (code:=EQ) rfl rfl rfl rfl ha hp (fun hc=>absurd hc h0) (fun i c' r hi _ _ _=>absurd hi (by lia)) (by lia)
 ·unfold ER
  induction hs:(t.take q).drop p using zi with
  |nil=>rfl
  |cons x y=>
   have e:(header EQ).1=1:=rfl
   rw[hs,e]at hl;simp at hl
end
section
open PySem PySem.Sre
noncomputable def Ey(c:Nat):Bool:=c !=10
noncomputable def VE(c:Nat):Bool:=cond (!Unicode.isSpace c) true false
noncomputable def QP:Txt→Nat→Option Nat
 |[],_=>none
 |c::r,x=>cond (VE c) (cond (Nat.blt (Af Ey r) r.length) (some (x+2+Af Ey r+1)) none) none
noncomputable def NL:Txt→Nat→Option Nat
 |[],_=>none
 |c::r,x=>cond (c==10) (some (x+1)) (cond (c==35) (QP r x) none)
noncomputable def E0(t:Txt)(p:Nat):Option Nat:=NL ((t.drop p).drop (Af HW (t.drop p))) (p+Af HW (t.drop p))
noncomputable def Cd:Array Nat:= #[14,4,0,1,4294967295,24,11,0,4294967295,13,6,16,32,16,9,0,1,23,16,0,1,16,35,13,4,8,13,0,24,5,0,4294967295,2,1,18,16,10,1]
noncomputable def Lj(cnt:Int)(bg:Option Nat):Array Loop:=(#[]:Array Loop).push (lp 17 cnt bg none)
section
variable {t s r:Txt}{lim x y c n:Nat}{start:SP}{I:Option Nat}{L:Array Loop}{res:Option Nat}{z:Bool}
theorem Bf{a:Nat→Bool}{c:Nat}{r:Txt}(h:a c=false):∀c' r',c::r=c'::r'→a c'=false:=fun c' r' e=>by
 refine Ao (z9 e) fun hq0 hq1=>?_;subst hq0;subst hq1;exact h
theorem Vu(hp:Pt t lim y (10::r)):B Cd t.toArray lim start z 2 35 y I L (some (y+1)):=
 Cu (n:=1) (a:=fun c=>c==10) rfl (Cl rfl rfl) hp rfl (k:=2) rfl (Mi rfl)
theorem Dm(hp:Pt t lim y s)(h:∀c r,s=c::r→(c==10)=false):B Cd t.toArray lim start z 1 35 y I L none:=
 Dp (a:=fun c=>c==10) rfl (Cl rfl rfl) hp h
theorem I6(hB:B Cd t.toArray lim start z n 35 y none (Lj 0 (some x)) res):B Cd t.toArray lim start z (n+2) 34 y (some 0) (Lj 0 (some x)) res:=
 SH (L:= #[]) (pr:=17) (least:=0) (most:=1) rfl rfl rfl (by decide) rfl hB
theorem D8(hp:Pt t lim x s)(h:∀c r,s=c::r→(c==35)=false)(hB:B Cd t.toArray lim start z n 35 x none (Lj (-1) none) res):B Cd t.toArray lim start z (n+6) 17 x none #[] res:=
 (Dd (skip:=16) (L:= #[]) (n:=1+n+3) rfl rfl (FK (L:= #[]) (pr:=17) (least:=0) (most:=1) rfl rfl rfl (by decide) rfl (Dp (pc:=21) (a:=fun c=>c==35) rfl (Cl rfl rfl) hp h) hB)).mono (by lia)
theorem Uc(hp:Pt t lim x s):B Cd t.toArray lim start false (5*s.length+40) 17 x none #[] (NL s x):=by
 induction s using zi with
 |nil=>exact(D8 hp (fun _ _ e=>nomatch e) (Dm hp (fun _ _ e=>nomatch e))).mono (by lia)
 |cons c r=>
  rw[zy]
  rw[show NL (c::r) x=cond (c==10) (some (x+1)) (cond (c==35) (QP r x) none)from rfl]
  induction q:c==10 using za with
  |true=>
   rw[jz]
   have e:=eq_of_beq q
   subst e
   exact(D8 hp (Bf (a:=fun c=>c==35) rfl) (Vu hp)).mono (by lia)
  |false=>
   rw[z6]
   induction q2:c==35 using za with
   |false=>
    rw[z6]
    exact(D8 hp (Bf (a:=fun c=>c==35) q2) (Dm hp (Bf (a:=fun c=>c==10) q))).mono (by lia)
   |true=>
    rw[jz]
    have e:=eq_of_beq q2
    subst e
    refine Bi hp.cons fun _ _ h1=>?_
    have hns:Acc Cd 23 VE:=CD (n:=2) rfl (fun c=>Tz rfl rfl (CJ rfl)) (by decide)
    have hT:∀{z},B Cd t.toArray lim start z 1 35 x none (Lj (-1) none) none:=Dm hp (Bf (a:=fun c=>c==10) rfl)
    have fin:∀{n},B Cd t.toArray lim start false n 23 (x+1) (some 0) (Lj 0 (some x)) none→B Cd t.toArray lim start false (n+8) 17 x none #[] none:=fun{n} hb=>
     (Dd (skip:=16) (L:= #[]) (n:=(n+1)+1+3) rfl rfl (FK (L:= #[]) (pr:=17) (least:=0) (most:=1) rfl rfl rfl (by decide) rfl (Cu (pc:=21) (a:=fun c=>c==35) (n:=n) rfl (Cl rfl rfl) hp rfl (k:=2) rfl hb) hT)).mono (by lia)
    induction r using zi with
    |nil=>exact(fin (Dp (a:=VE) rfl hns h1 (fun _ _ e=>nomatch e))).mono (by lia)
    |cons c' r'=>
     rw[zy]
     rw[show QP (c'::r') x=cond (VE c') (cond (Nat.blt (Af Ey r') r'.length) (some (x+2+Af Ey r'+1)) none) none from rfl]
     induction q3:VE c' using za with
     |false=>rw[z6];exact(fin (Dp (a:=VE) rfl hns h1 (Bf q3))).mono (by lia)
     |true=>
      rw[jz]
      refine Bi h1.cons fun _ _ h2=>?_
      have h2:Pt t lim (x+2) r':=h2
      have hany:Acc Cd 32 Ey:=SZ rfl
      have hle:=B7 Ey r'
      have hd:=h2.drop hle
      induction q4:Nat.blt (Af Ey r') r'.length using za with
      |true=>
       rw[jz]
       have hlt:Af Ey r' < r'.length:=zp q4
       induction q5:r'.drop (Af Ey r')using zi with
       |nil=>have:=zB List.length q5;rw[z4]at this;simp at this;lia
       |cons y w=>
        have hy:=Il q5
        have e:y=10:=by unfold Ey at hy;simpa using hy
        subst e
        rw[q5]at hd
        refine(Dd (skip:=16) (L:= #[]) (n:=10) rfl rfl (KJ (z:=false) (n:=8) (L:= #[]) (pr:=17) (least:=0) (most:=1) rfl rfl rfl (by decide) rfl (Cu (pc:=21) (a:=fun c=>c==35) (n:=7) rfl (Cl rfl rfl) hp rfl (k:=2) rfl (Cu (n:=6) (a:=VE) rfl hns h1 q3 (k:=5) rfl (Fc (n:=4) rfl rfl rfl rfl hany h2 (zH _) (I6 (Vu hd))))))).mono (by lia)
      |false=>
       rw[z6]
       have hge:¬Af Ey r' < r'.length:=fun h=>by rw[Nat.blt,zt h]at q4;cases q4
       refine(fin (n:=4*r'.length+20) (Cu (n:=4*r'.length+19) (a:=VE) rfl hns h1 q3 (k:=5) rfl (Dq (n:=3) (c:=3) rfl rfl rfl rfl hany h2 (fun _=>?_) (fun i c'' w _ _ hc hpt=>?_) (by lia)))).mono (by lia)
       ·have e:r'.drop (Af Ey r')=[]:=jL (by lia)
        rw[e]at hd
        exact I6 (Dm hd (fun _ _ e=>nomatch e))
       ·refine I6 (Dm hpt (Bf (a:=fun c=>c==10) ?_))
        unfold Ey at hc
        simpa using hc
theorem Xv{t:Txt}{p:Nat}(h:p≤t.length)(hf:t.length≤100000):Meets Cd t p t.length (E0 t p):=by
 have hp:Pt t t.length p ((t.take t.length).drop p):=⟨h,zw _,rfl,hf⟩
 have hb:Acc Cd 9 HW:=CD (n:=3) rfl (fun c=>DS rfl rfl (DS rfl rfl (CJ rfl))) (by decide)
 rw[take_all]at hp
 have hle:=B7 HW (t.drop p)
 have hd:=hp.drop hle
 refine meets (n:=20*(t.drop p).length+60) (z:=false) ?_ (by rw[take_all];exact hp) (by rw[take_all];lia) (fun hl=>?_)
 ·have hlen:((t.drop p).drop (Af HW (t.drop p))).length≤(t.drop p).length:=by rw[z4];lia
  unfold E0
  have hT:=Uc (start:=(p,0)) hd
  induction q:NL ((t.drop p).drop (Af HW (t.drop p))) (p+Af HW (t.drop p))using zh with
  |some e=>
   rw[q]at hT
   exact(Fc (pc:=5) rfl rfl rfl rfl hb hp (zH _) hT).mono (by lia)
  |none=>
   rw[q]at hT
   refine Dq (pc:=5) (c:=7) rfl rfl rfl rfl hb hp (fun _=>hT) (fun i c' r _ _ hc hpt=>?_) (by lia)
   have h1:(c'==35)=false:=by
    induction q:c'==35 using za with
    |false=>rfl
    |true=>rw[eq_of_beq q]at hc;cases hc
   have h2:(c'==10)=false:=by
    induction q:c'==10 using za with
    |false=>rfl
    |true=>rw[eq_of_beq q]at hc;cases hc
   exact D8 hpt (Bf (a:=fun c=>c==35) h1) (Dm hpt (Bf (a:=fun c=>c==10) h2))
 ·have e:(header Cd).1=1:=rfl
  rw[take_all,e]at hl
  have h0:t.drop p=[]:=by
   induction q:t.drop p using zi with
   |nil=>rfl
   |cons _ _=>rw[q]at hl;simp at hl
  unfold E0
  rw[h0];rfl
end
end
section
open PySem PySem.Sre
noncomputable def AJ:Array Nat:= #[14,9,4,1,4294967295,16,34,16,39,0,7,72,16,34,16,34,16,34,24,12,0,4294967295,13,7,21,16,34,16,92,0,1,23,37,0,4294967295,7,6,16,92,3,15,15,13,16,34,5,7,0,16,34,16,34,1,15,2,0,24,12,0,4294967295,13,7,21,16,34,16,92,0,1,18,23,9,0,1,16,34,16,34,16,34,18,15,186,56,16,34,24,17,0,4294967295,13,12,21,9,1024,4,268435456,0,0,0,0,0,0,1,23,24,0,4294967295,16,92,3,24,17,0,4294967295,13,12,21,9,1024,4,268435456,0,0,0,0,0,0,1,18,24,6,0,1,16,34,1,15,130,72,16,39,16,39,16,39,24,12,0,4294967295,13,7,21,16,39,16,92,0,1,23,37,0,4294967295,7,6,16,92,3,15,15,13,16,39,5,7,0,16,39,16,39,1,15,2,0,24,12,0,4294967295,13,7,21,16,39,16,92,0,1,18,23,9,0,1,16,39,16,39,16,39,18,15,58,56,16,39,24,17,0,4294967295,13,12,21,9,1024,128,268435456,0,0,0,0,0,0,1,23,24,0,4294967295,16,92,3,24,17,0,4294967295,13,12,21,9,1024,128,268435456,0,0,0,0,0,0,1,18,24,6,0,1,16,39,1,15,2,0,1]
noncomputable def tm(q:Nat):List Nat:=[0,0,0,0,0,0,0,0,0,0,0,0,16,q,16,q,16,q,24,12,0,4294967295,13,7,21,16,q,16,92,0,1,23,37,0,4294967295,7,6,16,92,3,15,15,13,16,q,5,7,0,16,q,16,q,1,15,2,0,24,12,0,4294967295,13,7,21,16,q,16,92,0,1,18,23,9,0,1,16,q,16,q,16,q,18,15,0,56,16,q,24,17,0,4294967295,13,12,21,9,1024,0,268435456,0,0,0,0,0,0,1,23,24,0,4294967295,16,92,3,24,17,0,4294967295,13,12,21,9,1024,0,268435456,0,0,0,0,0,0,1,18,24,6,0,1,16,q,1]
noncomputable def Dt(q c:Nat):Bool:=cond (c==q) false (cond (c==92) false true)
noncomputable def Cs(q c:Nat):Bool:=cond (c==q) false (cond (c==92) false (cond (c==10) false true))
noncomputable def Cb(q:Nat):Txt→Nat
 |[]=>0
 |[c]=>cond (c==92) 0 1
 |c::d::r=>cond (c==92) (Cb q r+2) (cond (c==q) (cond (pre? [q,q] (d::r)) 3 (Cb q (d::r)+1)) (Cb q (d::r)+1))
noncomputable def CX(q:Nat):Txt→Nat
 |[]=>0
 |[c]=>cond (c==92) 0 (cond (c==q) 1 (cond (c==10) 0 1))
 |c::d::r=>cond (c==92) (CX q r+2) (cond (c==q) 1 (cond (c==10) 0 (CX q (d::r)+1)))
theorem Hh(q:Nat):∀s,Cb q s=Af (Dt q) s+Cb q (s.drop (Af (Dt q) s))
 |[]=>rfl
 |c::r=>by
  unfold Af
  induction h:Dt q c using za with
  |false=>rw[z6,jD];rfl
  |true=>
   have h0:=h
   unfold Dt at h
   induction h1:c==q using za with
   |true=>rw[h1]at h;cases h
   |false=>
    rw[h1,z6]at h
    induction h2:c==92 using za with
    |true=>rw[h2]at h;cases h
    |false=>
     have e:Cb q (c::r)=Cb q r+1:=by induction r using zi <;>simp[Cb,h1,h2]
     rw[e,Hh q r,jz]
     show _=Af (Dt q) r+1+Cb q (r.drop (Af (Dt q) r))
     lia
theorem G2(q:Nat):∀s,CX q s=Af (Cs q) s+CX q (s.drop (Af (Cs q) s))
 |[]=>rfl
 |c::r=>by
  unfold Af
  induction h:Cs q c using za with
  |false=>rw[z6,jD];rfl
  |true=>
   unfold Cs at h
   induction h1:c==q using za with
   |true=>rw[h1]at h;cases h
   |false=>
    rw[h1,z6]at h
    induction h2:c==92 using za with
    |true=>rw[h2]at h;cases h
    |false=>
     rw[h2,z6]at h
     induction h3:c==10 using za with
     |true=>rw[h3]at h;cases h
     |false=>
      have e:CX q (c::r)=CX q r+1:=by induction r using zi <;>simp[CX,h1,h2,h3]
      rw[e,G2 q r,jz]
      show _=Af (Cs q) r+1+CX q (r.drop (Af (Cs q) r))
      lia
theorem D5{a:Nat→Bool}{s:Txt}:∀c r,s.drop (Af a s)=c::r→a c=false:=fun _ _ h=>Il h
structure Seg(b q J1 J2:Nat):Prop where
 hs:∀k,k < 137→k≠82→k≠95→k≠120→12≤k→AJ.getD (b+k) 0=(tm q).getD k 0
 j1:AJ.getD (b+82) 0=J1
 e1:b+81+1+J1=268
 j2:AJ.getD (b+138) 0=J2
 j0:AJ.getD (b+137) 0=15
 e2:b+137+1+J2=268
 a1:Acc AJ (b+90) (Cs q)
 a2:Acc AJ (b+115) (Cs q)
 hq:(92==q)=false
section
variable {t:Txt}{lim b q J1 J2:Nat}{start:SP}
theorem Seg.at(S:Seg b q J1 J2)(k:Nat)(h:(decide (k < 137) && (k !=82 && (k !=95 && (k !=120 && decide (12≤k)))))=true:=by rfl):AJ.getD (b+k) 0=(tm q).getD k 0:=by
 simp only[jp,JV,J5]at h
 exact S.hs k h.1 h.2.1 h.2.2.1 h.2.2.2.1 h.2.2.2.2
theorem Ft{pc c:Nat}(h:AJ.getD pc 0=16)(h1:AJ.getD (pc+1) 0=c):Ej (AJ.getD pc 0)=true∧Acc AJ pc (fun x=>x==c)∧itemWidth AJ pc=2:=
 ⟨by rw[h];rfl,Cl h h1,by unfold itemWidth;rw[h];rfl⟩
theorem L2(S:Seg b q J1 J2){s:Txt}{x:Nat}{L:Array Loop}(hp:Pt t lim x s):B AJ t.toArray lim start false 20 (b+70) x none L (some (cond (pre? [q,q,q] s) (x+3) x)):=by
 have hok:∀{y z I L},B AJ t.toArray lim start z 2 (b+81) y I L (some y):=fun{y z I L}=>Fj (n:=1) (S.at 81) S.j1 (by rw[S.e1];exact Mi rfl)
 have hl:Gp AJ (b+74) [q,q,q]:=⟨S.at 74,S.at 75,S.at 76,S.at 77,S.at 78,S.at 79,trivial⟩
 refine B.mono (n:=15) (Dd (n:=13) (skip:=9) (S.at 70) (S.at 71) ?_) (by decide)
 show B AJ t.toArray lim start false 13 (b+80) x _ _ _
 induction q1:pre? [q,q,q] s using za with
 |false=>
  exact(FK (n:=3) (n':=2) (pr:=b+70) (least:=0) (most:=1) (S.at 80) (S.at 72) (S.at 73) (by decide) rfl (Cj hl hp q1) hok).mono (by decide)
 |true=>
  refine zg (pre_app q1) fun s' e=>?_
  subst e
  exact(KJ (z:=false) (n:=7) (pr:=b+70) (least:=0) (most:=1) (S.at 80) (S.at 72) (S.at 73) (by decide) rfl (FB (n:=4) hl hp (SH (pr:=b+70) (least:=0) (most:=1) (S.at 80) (S.at 72) (S.at 73) (by decide) rfl hok))).mono (by decide)
theorem E7{cnt:Int}{bg:Option Nat}{x:Nat}(h:bg=none∨∃y,bg=some y∧y < x):E6 cnt 4294967295 bg x=true:=by
 unfold E6
 have e:(4294967295==maxRepeat)=true:=rfl
 rw[e,Bool.or_true,Bool.true_and]
 rcases h with rfl |⟨y,rfl,h⟩
 ·rfl
 ·rw[J5]
  intro e
  cases e
  lia
theorem LS(S:Seg b q J1 J2):Acc AJ (b+22) (Dt q)∧Acc AJ (b+60) (Dt q):=
 ⟨CD (n:=4) (S.at 22) (fun c=>Eu (S.at 24) (DS (S.at 25) (S.at 26) (DS (S.at 27) (S.at 28) (CJ (S.at 29))))) (by decide),
  CD (n:=4) (S.at 60) (fun c=>Eu (S.at 62) (DS (S.at 63) (S.at 64) (DS (S.at 65) (S.at 66) (CJ (S.at 67))))) (by decide)⟩
theorem Sw(S:Seg b q J1 J2):∀(n:Nat) (s:Txt) (x:Nat),s.length≤n→(∀c r,s=c::r→Dt q c=false)→∀(cnt:Int) (bg:Option Nat),(bg=none∨∃y,bg=some y∧y < x)→ -1≤cnt→Pt t lim x s→
  B AJ t.toArray lim start false (30*s.length+60) (b+69) x (some 0) ((#[]:Array Loop).push (lp (b+31) cnt bg none)) (some (x+Cb q s)):=by
 intro n
 induction n with
 |zero=>
  intro s x hn hs cnt bg hbg hcnt hp
  induction s using zi with
  |cons c r=>simp at hn
  |nil=>
   refine(FK (L:= #[]) (n:=5) (n':=20) (pr:=b+31) (least:=0) (most:=4294967295) (S.at 69) (S.at 33) (S.at 34) (by lia) (E7 hbg) (BH (S.at 35) (BB (n:=1) (n':=2) (k:=5) (S.at 36) ?_ (BB (n:=1) (n':=0) (k:=12) (S.at 42) ?_ (Nh (S.at 55))))) (L2 S hp)).mono (by simp)
   ·refine Bi (Ft (pc:=b+37) (c:=92) (S.at 37) (S.at 38)) fun l1 l2 _=>?_
    exact Dp l1 l2 hp (fun _ _ e=>nomatch e)
   ·refine Bi (Ft (pc:=b+43) (c:=q) (S.at 43) (S.at 44)) fun l1 l2 _=>?_
    exact Dp l1 l2 hp (fun _ _ e=>nomatch e)
 |succ n ih=>
  intro s x hn hs cnt bg hbg hcnt hp
  refine Bi (Ft (pc:=b+37) (c:=92) (S.at 37) (S.at 38)) fun l1 l2 l3=>?_
  refine Bi (Ft (pc:=b+43) (c:=q) (S.at 43) (S.at 44)) fun m1 m2 m3=>?_
  have hall:Acc AJ (b+39) (fun _=>true):=Ni (S.at 39)
  have stop:∀{n1 n2:Nat},(∀L I,B AJ t.toArray lim start false n1 (b+37) x I L none)→(∀L I,B AJ t.toArray lim start false n2 (b+43) x I L none)→B AJ t.toArray lim start false (n1+n2+30) (b+69) x (some 0) ((#[]:Array Loop).push (lp (b+31) cnt bg none)) (some (cond (pre? [q,q,q] s) (x+3) x)):=fun{n1 n2} h1 h2=>
   (FK (L:= #[]) (n:=n1+(n2+(0+1)+1)+1) (n':=20) (pr:=b+31) (least:=0) (most:=4294967295) (S.at 69) (S.at 33) (S.at 34) (by lia) (E7 hbg) (BH (S.at 35) (BB (k:=5) (S.at 36) (h1 _ _) (BB (k:=12) (S.at 42) (h2 _ _) (Nh (S.at 55))))) (L2 S hp)).mono (by lia)
  have run:∀{r:Txt} {y:Nat},r.length≤n→x < y→Pt t lim y r→B AJ t.toArray lim start false (30*r.length+62) (b+56) y (some 0) ((#[]:Array Loop).push (lp (b+31) (cnt+1) (some x) none)) (some (y+Cb q r)):=fun{r y} hr hy hpt=>by
   have hle:=B7 (Dt q) r
   have hd:=hpt.drop hle
   have hl:(r.drop (Af (Dt q) r)).length=r.length - Af (Dt q) r:=z4
   have:=ih (r.drop (Af (Dt q) r)) (y+Af (Dt q) r) (by lia) D5 (cnt+1) (some x) (.inr ⟨x,rfl,by lia⟩) (by lia) hd
   rw[Hh q r,←zT]
   exact(Fc (S.at 56) (S.at 57) (S.at 58) (S.at 59) (LS S).2 hpt (zH _) this).mono (by lia)
  have go:∀{n1 e:Nat},B AJ t.toArray lim start false n1 (b+35) x (some 0) ((#[]:Array Loop).push (lp (b+31) (cnt+1) (some x) none)) (some e)→B AJ t.toArray lim start false (n1+2) (b+69) x (some 0) ((#[]:Array Loop).push (lp (b+31) cnt bg none)) (some e):=fun h=>
   KJ (L:= #[]) (pr:=b+31) (least:=0) (most:=4294967295) (S.at 69) (S.at 33) (S.at 34) (by lia) (E7 hbg) h
  induction s using zi with
  |nil=>exact(stop (fun _ _=>Dp l1 l2 hp (fun _ _ e=>nomatch e)) (fun _ _=>Dp m1 m2 hp (fun _ _ e=>nomatch e))).mono (by simp)
  |cons c r=>
   refine Bi hp.cons fun _ _ h1=>?_
   rw[zy]at hn ⊢
   induction q1:c==92 using za with
   |true=>
    have e:=eq_of_beq q1
    subst e
    induction r using zi with
    |nil=>
     have hb:pre? [q,q,q] [92]=false:=by
      induction q2:Nat.beq q 92 using za with
      |false=>simp[pre?,q2]
      |true=>simp[pre?,q2]
     have:=stop (n1:=2) (n2:=1) (fun _ _=>Cu (n:=1) l1 l2 hp rfl l3 (Dp (by rw[S.at 39];rfl) hall h1 (fun _ _ e=>nomatch e))) (fun _ _=>Dp m1 m2 hp (Bf (a:=fun x=>x==q) S.hq))
     rw[hb]at this
     exact this.mono (by simp)
    |cons d r'=>
     refine Bi h1.cons fun _ _ h2=>?_
     rw[zy]at hn ⊢
     have e:Cb q (92::d::r')=Cb q r'+2:=rfl
     have e2:x+Cb q (92::d::r')=x+1+1+Cb q r':=by rw[e];lia
     rw[e2]
     refine(go (BH (S.at 35) (GE (k:=5) (S.at 36) (Cu (n:=30*r'.length+64) l1 l2 hp rfl l3 (Cu (n:=30*r'.length+63) (k:=1) (by rw[S.at 39];rfl) hall h1 rfl (by unfold itemWidth;rw[S.at 39];rfl) (Fj (S.at 40) (S.at 41) (run (by lia) (by lia) h2))))))).mono (by lia)
   |false=>
    have hq:c=q:=by
     have:=hs c r rfl
     unfold Dt at this
     induction q2:c==q using za with
     |true=>exact eq_of_beq q2
     |false=>rw[q2,q1]at this;cases this
    subst hq
    have hl:Gp AJ (b+48) [c,c]:=⟨S.at 48,S.at 49,S.at 50,S.at 51,trivial⟩
    have a1:∀L I,B AJ t.toArray lim start false 1 (b+37) x I L none:=fun _ _=>Dp l1 l2 hp (Bf (a:=fun x=>x==92) q1)
    induction q3:pre? [c,c] r using za with
    |true=>
     refine zg (pre_app q3) fun r' e=>?_
     subst e
     have:=stop (n2:=6) a1 (fun _ _=>Cu (n:=5) m1 m2 hp (by simp) m3 (Ou (n:=3) (S.at 45) (S.at 47) (FB (n:=1) hl h1 (Mi (S.at 52)))))
     have e1:pre? [c,c,c] (c::([c,c]++r'))=true:=by simp[pre?]
     have e2:Cb c (c::([c,c]++r'))=3:=by simp[Cb,pre?,q1]
     rw[e1]at this
     rw[e2]
     exact this.mono (by simp)
    |false=>
     have e:Cb c (c::r)=Cb c r+1:=by
      induction r using zi with
      |nil=>simp[Cb,q1]
      |cons d r'=>simp[Cb,q1,q3]
     have e2:x+Cb c (c::r)=x+1+Cb c r:=by rw[e];lia
     rw[e2]
     refine(go (BH (S.at 35) (BB (n:=1) (k:=5) (S.at 36) (a1 _ _) (GE (k:=12) (S.at 42) (Cu (n:=2+(30*r.length+63)+2) m1 m2 hp (by simp) m3 (Wn (n:=2) (n':=30*r.length+63) (S.at 45) (S.at 46) (S.at 47) (Cj hl h1 q3) (Fj (S.at 53) (S.at 54) (run (by lia) (by lia) h1)))))))).mono (by lia)
end
end
section
open PySem PySem.Sre
section
variable {t:Txt}{lim b q J1 J2:Nat}{start:SP}
noncomputable def YU(q:Nat):Txt→Nat
 |c::_=>cond (c==q) 1 0
 |[]=>0
theorem RA(S:Seg b q J1 J2){s:Txt}{x:Nat}{I:Option Nat}{L:Array Loop}(hp:Pt t lim x s):B AJ t.toArray lim start false 5 (b+130) x I L (some (x+YU q s)):=by
 refine Bi (Ft (pc:=b+134) (c:=q) (S.at 134) (S.at 135)) fun m1 m2 m3=>?_
 refine(HS (n:=2) (least:=0) (most:=1) (skip:=6) (N:=YU q s) (S.at 130) (S.at 131) (S.at 132) (S.at 133) m2 hp.le ((hp.iv _).trans ?_) (zH _) (Fj (n:=1) S.j0 S.j2 (by rw[S.e2];exact Mi rfl))).mono (by decide)
 induction s using zi <;>rfl
theorem Rz(S:Seg b q J1 J2):∀(n:Nat) (s:Txt) (x:Nat),s.length≤n→(∀c r,s=c::r→Cs q c=false)→∀(cnt:Int) (bg:Option Nat),(bg=none∨∃y,bg=some y∧y < x)→ -1≤cnt→Pt t lim x s→
  B AJ t.toArray lim start false (30*s.length+60) (b+129) x (some 0) ((#[]:Array Loop).push (lp (b+104) cnt bg none)) (some (x+CX q s)):=by
 intro n
 have stop:∀{x:Nat} {s:Txt} {cnt:Int} {bg:Option Nat} {n1:Nat},(bg=none∨∃y,bg=some y∧y < x)→ -1≤cnt→Pt t lim x s→(∀L I,B AJ t.toArray lim start false n1 (b+108) x I L none)→B AJ t.toArray lim start false (n1+5+3) (b+129) x (some 0) ((#[]:Array Loop).push (lp (b+104) cnt bg none)) (some (x+YU q s)):=fun hbg hcnt hp h1=>
  FK (L:= #[]) (pr:=b+104) (least:=0) (most:=4294967295) (S.at 129) (S.at 106) (S.at 107) (by lia) (E7 hbg) (h1 _ _) (RA S hp)
 refine Bi (Ft (pc:=b+108) (c:=92) (S.at 108) (S.at 109)) fun l1 l2 l3=>?_
 have hall:Acc AJ (b+110) (fun _=>true):=Ni (S.at 110)
 induction n with
 |zero=>
  intro s x hn hs cnt bg hbg hcnt hp
  induction s using zi with
  |cons c r=>simp at hn
  |nil=>exact(stop hbg hcnt hp (fun _ _=>Dp l1 l2 hp (fun _ _ e=>nomatch e))).mono (by simp)
 |succ n ih=>
  intro s x hn hs cnt bg hbg hcnt hp
  induction s using zi with
  |nil=>exact(stop hbg hcnt hp (fun _ _=>Dp l1 l2 hp (fun _ _ e=>nomatch e))).mono (by simp)
  |cons c r=>
   refine Bi hp.cons fun _ _ h1=>?_
   rw[zy]at hn ⊢
   induction q1:c==92 using za with
   |true=>
    have e:=eq_of_beq q1
    subst e
    induction r using zi with
    |nil=>
     have e:YU q [92]=CX q [92]:=by
      show cond (92==q) 1 0=0
      rw[S.hq];rfl
     rw[←e]
     exact(stop hbg hcnt hp (fun _ _=>Cu (n:=1) l1 l2 hp rfl l3 (Dp (by rw[S.at 110];rfl) hall h1 (fun _ _ e=>nomatch e)))).mono (by simp)
    |cons d r'=>
     refine Bi h1.cons fun _ _ h2=>?_
     rw[zy]at hn ⊢
     have hle:=B7 (Cs q) r'
     have hd:=h2.drop hle
     have hl:(r'.drop (Af (Cs q) r')).length=r'.length - Af (Cs q) r':=z4
     have e:CX q (92::d::r')=CX q r'+2:=rfl
     have:=ih (r'.drop (Af (Cs q) r')) (x+2+Af (Cs q) r') (by lia) D5 (cnt+1) (some x) (.inr ⟨x,rfl,by lia⟩) (by lia) hd
     have e2:x+CX q (92::d::r')=x+2+Af (Cs q) r'+CX q (r'.drop (Af (Cs q) r')):=by rw[e,G2 q r'];lia
     rw[e2]
     refine(KJ (z:=false) (L:= #[]) (pr:=b+104) (least:=0) (most:=4294967295) (S.at 129) (S.at 106) (S.at 107) (by lia) (E7 hbg) (Cu l1 l2 hp rfl l3 (Cu (k:=1) (by rw[S.at 110];rfl) hall h1 rfl (by unfold itemWidth;rw[S.at 110];rfl) (Fc (S.at 111) (S.at 112) (S.at 113) (S.at 114) S.a2 h2 (zH _) this)))).mono (by lia)
   |false=>
    have e:YU q (c::r)=CX q (c::r):=by
     have:=hs c r rfl
     unfold Cs at this
     rw[q1,z6]at this
     induction q2:c==q using za with
     |true=>induction r using zi <;>simp[CX,YU,q1,q2]
     |false=>
      rw[q2,z6]at this
      induction q3:c==10 using za with
      |true=>induction r using zi <;>simp[CX,YU,q1,q2,q3]
      |false=>rw[q3]at this;cases this
    rw[←e]
    exact(stop hbg hcnt hp (fun _ _=>Dp l1 l2 hp (Bf (a:=fun x=>x==92) q1))).mono (by lia)
theorem Oj(S:Seg b q J1 J2){s:Txt}{p:Nat}(hp:Pt t lim p ([q,q,q]++s)):B AJ t.toArray lim start false (30*s.length+80) (b+12) p none #[] (some (p+3+Cb q s)):=by
 have hl:Gp AJ (b+12) [q,q,q]:=⟨S.at 12,S.at 13,S.at 14,S.at 15,S.at 16,S.at 17,trivial⟩
 have h1:Pt t lim (p+3) s:=hp.drop (k:=3) (by simp)
 have hle:=B7 (Dt q) s
 have hd:=h1.drop hle
 have hlen:(s.drop (Af (Dt q) s)).length=s.length - Af (Dt q) s:=z4
 have e:p+3+Cb q s=p+3+Af (Dt q) s+Cb q (s.drop (Af (Dt q) s)):=by rw[Hh q s];lia
 rw[e]
 exact(FB hl hp (Fc (S.at 18) (S.at 19) (S.at 20) (S.at 21) (LS S).1 h1 (zH _) (Dd (L:= #[]) (S.at 31) (S.at 32) (Sw S _ _ _ (zw _) D5 (-1) none (.inl rfl) (by decide) hd)))).mono (by simp only[zy,JH];lia)
theorem NT(S:Seg b q J1 J2){s:Txt}{p:Nat}(hp:Pt t lim p ([q]++s)):B AJ t.toArray lim start false (30*s.length+80) (b+84) p none #[] (some (p+1+CX q s)):=by
 have hl:Gp AJ (b+84) [q]:=⟨S.at 84,S.at 85,trivial⟩
 have h1:Pt t lim (p+1) s:=hp.drop (k:=1) (by simp)
 have hle:=B7 (Cs q) s
 have hd:=h1.drop hle
 have hlen:(s.drop (Af (Cs q) s)).length=s.length - Af (Cs q) s:=z4
 have e:p+1+CX q s=p+1+Af (Cs q) s+CX q (s.drop (Af (Cs q) s)):=by rw[G2 q s];lia
 rw[e]
 exact(FB hl hp (Fc (S.at 86) (S.at 87) (S.at 88) (S.at 89) S.a1 h1 (zH _) (Dd (L:= #[]) (S.at 104) (S.at 105) (Rz S _ _ _ (zw _) D5 (-1) none (.inl rfl) (by decide) hd)))).mono (by simp only[zy,JH];lia)
noncomputable def Db(s:Txt)(p:Nat):Option Nat:=
 cond (pre? [34,34,34] s) (some (p+3+Cb 34 (s.drop 3))) (cond (pre? [34] s) (some (p+1+CX 34 (s.drop 1)))
  (cond (pre? [39,39,39] s) (some (p+3+Cb 39 (s.drop 3))) (cond (pre? [39] s) (some (p+1+CX 39 (s.drop 1))) none)))
noncomputable def KE(t:Txt)(p q:Nat):Option Nat:=Db ((t.take q).drop p) p
theorem GA{i q:Nat}(hw:(List.range 256).all (fun c=>(cond (decide (c < 256) && (AJ.getD (i+(1+c / 32)) 0).testBit (c % 32)) false true)==Cs q c)=true)(hq:q < 256)(c:Nat):cond (decide (c < 256) && (AJ.getD (i+(1+c / 32)) 0).testBit (c % 32)) false true=Cs q c:=by
 by_cases h:c < 256
 ·have:=zR.mp hw c (List.mem_range.mpr h)
  exact eq_of_beq this
 ·have h1:decide (c < 256)=false:=zJ h
  rw[h1,Bool.false_and,z6]
  unfold Cs
  have e1:(c==q)=false:=jk.mpr (by lia)
  have e2:(c==92)=false:=jk.mpr (by lia)
  have e3:(c==10)=false:=jk.mpr (by lia)
  rw[e1,e2,e3];rfl
theorem Sc{b q:Nat}(h:(List.range 137).all (fun k=>k==82 || (k==95 || (k==120 || (decide (k < 12) || AJ.getD (b+k) 0==(tm q).getD k 0))))=true):∀k,k < 137→k≠82→k≠95→k≠120→12≤k→AJ.getD (b+k) 0=(tm q).getD k 0:=by
 intro k h1 h2 h3 h4 h5
 have:=zR.mp h k (List.mem_range.mpr h1)
 simp only[JJ,beq_iff_eq,JV]at this
 rcases this with h |h |h |h |h
 ·exact absurd h h2
 ·exact absurd h h3
 ·exact absurd h h4
 ·lia
 ·exact h
theorem VY:Seg 0 34 186 130 where
 hs:=Sc (by decide+kernel)
 j1:=by decide+kernel
 e1:=rfl
 j2:=by decide+kernel
 j0:=by decide+kernel
 e2:=rfl
 a1:=(CD (n:=3) (by decide+kernel) (fun c=>Eu (by decide+kernel) (GS (by decide+kernel) (CJ (by decide+kernel)))) (by decide)).congr (GA (by decide+kernel) (by decide))
 a2:=(CD (n:=3) (by decide+kernel) (fun c=>Eu (by decide+kernel) (GS (by decide+kernel) (CJ (by decide+kernel)))) (by decide)).congr (GA (by decide+kernel) (by decide))
 hq:=rfl
theorem VZ:Seg 128 39 58 2 where
 hs:=Sc (by decide+kernel)
 j1:=by decide+kernel
 e1:=rfl
 j2:=by decide+kernel
 j0:=by decide+kernel
 e2:=rfl
 a1:=(CD (n:=3) (by decide+kernel) (fun c=>Eu (by decide+kernel) (GS (by decide+kernel) (CJ (by decide+kernel)))) (by decide)).congr (GA (by decide+kernel) (by decide))
 a2:=(CD (n:=3) (by decide+kernel) (fun c=>Eu (by decide+kernel) (GS (by decide+kernel) (CJ (by decide+kernel)))) (by decide)).congr (GA (by decide+kernel) (by decide))
 hq:=rfl
theorem TU{t:Txt}{p q:Nat}(h:p≤q)(hq:q≤t.length)(hf:t.length≤100000):Meets AJ t p q (KE t p q):=by
 have hp:Pt t q p ((t.take q).drop p):=⟨h,hq,rfl,hf⟩
 refine meets (n:=30*((t.take q).drop p).length+200) (z:=false) ?_ hp (by lia) (fun hl=>?_)
 ·unfold KE
  generalize(t.take q).drop p=s at hp ⊢
  have a1:AJ.getD 11 0=71+1:=by decide+kernel
  have a2:AJ.getD 83 0=55+1:=by decide+kernel
  have a3:AJ.getD 139 0=71+1:=by decide+kernel
  have a4:AJ.getD 211 0=55+1:=by decide+kernel
  have a5:AJ.getD 267 0=0:=by decide+kernel
  have l1:Gp AJ 12 [34,34,34]:=E4 (by decide+kernel)
  have l2:Gp AJ 84 [34]:=E4 (by decide+kernel)
  have l3:Gp AJ 140 [39,39,39]:=E4 (by decide+kernel)
  have l4:Gp AJ 212 [39]:=E4 (by decide+kernel)
  have h10:AJ.getD 10 0=7:=by decide+kernel
  show B AJ t.toArray q (p,0) false _ 10 p none #[] (Db s p)
  unfold Db
  induction q1:pre? [34,34,34] s using za with
  |true=>
   refine zg (pre_app q1) fun s' e=>?_
   subst e
   rw[jz]
   exact(BH h10 (GE a1 (Oj VY hp))).mono (by simp;lia)
  |false=>
   have x1:=Cj (start:=(p,0)) (z:=false) (I:=none) (L:= #[]) l1 hp q1
   rw[z6]
   induction q2:pre? [34] s using za with
   |true=>
    refine zg (pre_app q2) fun s' e=>?_
    subst e
    rw[jz]
    exact(BH h10 (BB a1 x1 (GE a2 (NT VY hp)))).mono (by simp;lia)
   |false=>
    have x2:=Cj (start:=(p,0)) (z:=false) (I:=none) (L:= #[]) l2 hp q2
    rw[z6]
    induction q3:pre? [39,39,39] s using za with
    |true=>
     refine zg (pre_app q3) fun s' e=>?_
     subst e
     rw[jz]
     exact(BH h10 (BB a1 x1 (BB a2 x2 (GE a3 (Oj VZ hp))))).mono (by simp;lia)
    |false=>
     have x3:=Cj (start:=(p,0)) (z:=false) (I:=none) (L:= #[]) l3 hp q3
     rw[z6]
     induction q4:pre? [39] s using za with
     |true=>
      refine zg (pre_app q4) fun s' e=>?_
      subst e
      rw[jz]
      exact(BH h10 (BB a1 x1 (BB a2 x2 (BB a3 x3 (GE a4 (NT VZ hp)))))).mono (by simp;lia)
     |false=>
      have x4:=Cj (start:=(p,0)) (z:=false) (I:=none) (L:= #[]) l4 hp q4
      rw[z6]
      exact(BH h10 (BB a1 x1 (BB a2 x2 (BB a3 x3 (BB a4 x4 (Nh a5)))))).mono (by simp)
 ·have e:(header AJ).1=1:=rfl
  rw[e]at hl
  unfold KE
  induction q1:(t.take q).drop p using zi with
  |nil=>rfl
  |cons _ _=>rw[q1]at hl;simp at hl
end
end
section
open PySem PySem.Sre
noncomputable def BL:Array Nat:= #[14,4,0,3,4294967295,6,1,24,11,0,4294967295,13,6,16,32,16,9,0,1,7,13,16,119,16,104,16,105,16,108,16,101,15,173,11,16,101,16,108,16,115,16,101,15,162,9,16,100,16,101,16,102,15,153,15,16,114,16,101,16,116,16,117,16,114,16,110,15,138,15,16,97,16,115,16,115,16,101,16,114,16,116,15,123,13,16,98,16,114,16,101,16,97,16,107,15,110,13,16,99,16,108,16,97,16,115,16,115,15,97,19,16,99,16,111,16,110,16,116,16,105,16,110,16,117,16,101,15,78,11,16,101,16,108,16,105,16,102,15,67,9,16,116,16,114,16,121,15,58,15,16,101,16,120,16,99,16,101,16,112,16,116,15,43,13,16,114,16,97,16,105,16,115,16,101,15,30,15,16,105,16,109,16,112,16,111,16,114,16,116,15,15,13,16,121,16,105,16,101,16,108,16,100,15,2,0,6,10,1]
noncomputable def Hg:List Txt:=[[119,104,105,108,101],[101,108,115,101],[100,101,102],[114,101,116,117,114,110],[97,115,115,101,114,116],[98,114,101,97,107],[99,108,97,115,115],[99,111,110,116,105,110,117,101],[101,108,105,102],[116,114,121],[101,120,99,101,112,116],[114,97,105,115,101],[105,109,112,111,114,116],[121,105,101,108,100]]
noncomputable def bol(t:Txt)(p:Nat):Bool:=p==0 || t.toArray.getD (p - 1) 0==10
noncomputable def HM(t:Txt)(lim:Nat)(r:Txt)(x:Nat):List Txt→Option Nat
 |[]=>none
 |w::ws=>cond (pre? w r && HB t.toArray lim (x+w.length)) (some (x+w.length)) (HM t lim r x ws)
noncomputable def Pe(t:Txt)(lim p:Nat):Option Nat:=cond (bol t p) (HM t lim (((t.take lim).drop p).drop (Af HW ((t.take lim).drop p))) (p+Af HW ((t.take lim).drop p)) Hg) none
noncomputable def Pd(F:Nat→Option Nat):Nat→Nat→Option (Nat×Nat)
 |0,p=>match F p with |some e=>some (p,e) |none=>none
 |n+1,p=>match F p with |some e=>some (p,e) |none=>Pd F n (p+1)
noncomputable def DZ(t:Txt)(p q:Nat):Option (Nat×Nat):=cond (Nat.blt (q - p) 3) none (Pd (Pe t q) (max p (q - 2) - p) p)
section
variable {code text:Array Nat}{lim pc pos hd w N n:Nat}{start:SP}{om z:Bool}{I:Option Nat}{L:Array Loop}{F:List Sre.Frame}{sn:Seen}{r:Option Nat}{Q:M→Prop}
theorem KW{t:Txt}(h:code.getD pc 0=6)(h1:code.getD (pc+1) 0=1):∃sn',(mk code t.toArray lim start pc pos hd om I L F w none sn).step=cond (bol t pos) (mk code t.toArray lim start (pc+2) pos hd om I L F w none sn') (mk code t.toArray lim start pc pos hd om I L F w (some false) sn'):=by
 refine⟨(sn.add 6).add (43+1),(step_mk (size_of h)).trans ((Vq (mk code t.toArray lim start pc pos hd om I L F w none sn) h).trans ?_)⟩
 have e:(mk code t.toArray lim start pc pos hd om I L F w none sn).word 1=1:=h1
 rw[e]
 show(if bol t pos=true then _ else _)=_
 induction bol t pos using za <;>rfl
theorem Vj{t:Txt}(h:code.getD pc 0=6)(h1:code.getD (pc+1) 0=1)(he:bol t pos=true)(hB:B code t.toArray lim start z n (pc+2) pos I L r):B code t.toArray lim start z (n+1) pc pos I L r:=fun hd om F w sn N Q hw k=>
 zg (KW h h1) fun sn' e=>R.step (e.trans (by rw[he];rfl)) (hB hd om F w sn' N Q (w3 hw) k)
theorem PU{t:Txt}(h:code.getD pc 0=6)(h1:code.getD (pc+1) 0=1)(he:bol t pos=false):B code t.toArray lim start z 1 pc pos I L none:=fun hd om F w sn N Q hw k=>
 zg (KW (pos:=pos) (hd:=hd) (om:=om) (I:=I) (L:=L) (F:=F) (w:=w) (sn:=sn) h h1) fun sn' e=>R.step (e.trans (by rw[he];rfl)) k.no
noncomputable def PM(code:Array Nat)(E:Nat):Nat→List Txt→Bool
 |alt,[]=>code.getD alt 0==0
 |alt,w::ws=>code.getD alt 0==2*w.length+3 && (QZ code (alt+1) w && (code.getD (alt+1+2*w.length) 0==15 && ((alt+1+2*w.length)+1+code.getD (alt+1+2*w.length+1) 0==E && (Nat.ble w.length 10 && PM code E (alt+(2*w.length+2+1)) ws))))
theorem Zv{t s:Txt}{E x:Nat}(h1:code.getD E 0=6)(h2:code.getD (E+1) 0=10)(h3:code.getD (E+2) 0=1)(hp:Pt t lim x s):∀{ws:List Txt} {alt:Nat},PM code E alt ws=true→A code t.toArray lim start z (20*ws.length) alt x I L (HM t lim s x ws):=by
 intro ws
 induction ws with
 |nil=>intro alt h;exact Nh (eq_of_beq h)
 |cons w ws ih=>
  intro alt h
  have q:=zz.mp h
  have q2:=zz.mp q.2
  have q3:=zz.mp q2.2
  have q4:=zz.mp q3.2
  have q5:=zz.mp q4.2
  have e1:code.getD alt 0=2*w.length+2+1:=eq_of_beq q.1
  have hl:=E4 q2.1
  have e5:w.length≤10:=zp q5.1
  have hA:=ih q5.2
  have hlen:20*(w::ws).length=20*ws.length+20:=by rw[zy];lia
  rw[hlen]
  show A code t.toArray lim start z _ alt x I L (cond (pre? w s && HB t.toArray lim (x+w.length)) (some (x+w.length)) (HM t lim s x ws))
  induction hw:pre? w s using za with
  |false=>
   rw[Bool.false_and,z6]
   exact(BB e1 (Cj hl hp hw) hA).mono (by lia)
  |true=>
   rw[Bool.true_and]
   refine zg (pre_app hw) fun s' es=>?_
   have hp':Pt t lim x (w++s'):=es▸hp
   induction he:HB t.toArray lim (x+w.length)using za with
   |true=>
    rw[jz]
    exact(GE e1 (FB (n:=3) hl hp' (Fj (n:=2) (eq_of_beq q3.1) rfl (by rw[eq_of_beq q4.1];exact Wo (n:=1) h1 h2 he (Mi h3))))).mono (by lia)
   |false=>
    rw[z6]
    exact(BB e1 (FB (n:=2) hl hp' (Fj (n:=1) (eq_of_beq q3.1) rfl (by rw[eq_of_beq q4.1];exact Ov h1 h2 he))) hA).mono (by lia)
end
theorem M1{t r:Txt}{lim c x:Nat}(hc:HW c=true):∀{ws:List Txt},ws.all (fun w=>match w with |a::_=> !HW a |[]=>false)=true→HM t lim (c::r) x ws=none:=by
 intro ws
 induction ws with
 |nil=>exact fun _=>rfl
 |cons w ws ih=>
  intro h
  have q:=zz.mp (jP.symm.trans h)
  show cond (pre? w (c::r) && _) _ (HM t lim (c::r) x ws)=none
  have hn:pre? w (c::r)=false:=by
   induction w using zi with
   |nil=>exact Bool.noConfusion q.1
   |cons a w=>
    show cond (Nat.beq a c) _ false=false
    induction e:Nat.beq a c using za with
    |false=>rfl
    |true=>
     have q1:(!HW a)=true:=q.1
     rw[zD e,hc]at q1
     exact Bool.noConfusion q1
  rw[hn]
  exact ih q.2
theorem ZB{t:Txt}{lim p:Nat}{start:SP}(h:p≤lim)(hq:lim≤t.length)(hf:t.length≤100000):B BL t.toArray lim start false (310*(lim - p)+1000) 5 p none #[] (Pe t lim p):=by
 have hp:Pt t lim p ((t.take lim).drop p):=⟨h,hq,rfl,hf⟩
 have hb:Acc BL 11 HW:=CD (n:=3) rfl (fun c=>DS rfl rfl (DS rfl rfl (CJ rfl))) (by decide)
 unfold Pe
 have hlen:=hp.len
 generalize(t.take lim).drop p=s at hp hlen ⊢
 have hle:=B7 HW s
 have hd:=hp.drop hle
 have hal:PM BL 205 20 Hg=true:=by decide+kernel
 have h19:BL.getD 19 0=7:=by decide+kernel
 have w14:20*Hg.length=280:=by decide+kernel
 have all:∀{x:Nat} {s':Txt},Pt t lim x s'→B BL t.toArray lim start false 281 19 x none #[] (HM t lim s' x Hg):=fun hx=>BH h19 (w14▸Zv (by decide+kernel) (by decide+kernel) (by decide+kernel) hx hal)
 induction e:bol t p using za with
 |false=>rw[z6];exact(PU (by decide+kernel) (by decide+kernel) e).mono (by lia)
 |true=>
  rw[jz]
  have hT:=all hd
  induction q:HM t lim (s.drop (Af HW s)) (p+Af HW s) Hg using zh with
  |some e'=>
   rw[q]at hT
   exact(Vj (by decide+kernel) (by decide+kernel) e (Fc (pc:=7) (skip:=11) (n:=281) (least:=0) (by decide+kernel) (by decide+kernel) (by decide+kernel) (by decide+kernel) hb hp (zH _) hT)).mono (by lia)
  |none=>
   rw[q]at hT
   refine B.mono (Vj (n:=281+281+3+s.length*(281+1)) (by decide+kernel) (by decide+kernel) e (Dq (pc:=7) (skip:=11) (least:=0) (n:=281) (c:=281) (by decide+kernel) (by decide+kernel) (by decide+kernel) (by decide+kernel) hb hp (fun _=>hT) (fun i c' r _ _ hc hpt=>?_) (zw _))) (by lia)
   have:=all hpt
   rw[M1 hc (by decide+kernel)]at this
   exact this
end
section
open PySem PySem.Sre
noncomputable def nx(pc s:Nat)(first:Bool):Sre.Frame:={wait:=.nextStart,pc,pos:=s,outermost:=first}
noncomputable def S0(t:Txt)(lim last s:Nat)(first:Bool)(sn:Seen):M:=mk BL t.toArray lim (s,last) 5 s s first none #[] [nx 5 s first] 1 none sn
noncomputable def On(r:Option (Nat×Nat))(m:M):Prop:=match r with
 |some p=>m.outcome=some .matched∧m.handed=p.2∧m.start=p.1∧m.marks= #[]∧m.lastmark= -1∧m.lastindex= -1
 |none=>m.outcome=some .failed
theorem ND{t:Txt}{lim hd pos pc:Nat}{start:SP}{om:Bool}{I:Option Nat}{L:Array Loop}{F:List Sre.Frame}{w:Nat}{an:Option Bool}{sn:Seen}:(mk BL t.toArray lim start pc pos hd om I L F w an sn).hasFirstSet=false:=by
 show((match ops[BL.getD 0 0]? with |some .INFO=>true |_=>false) && BL.getD 2 0==4)=false
 have h0:BL.getD 0 0=14:=by decide+kernel
 have h2:BL.getD 2 0=0:=by decide+kernel
 rw[h0,h2];rfl
theorem NA{t:Txt}{lim last s p0 pos hd:Nat}{om first:Bool}{sn:Seen}:(mk BL t.toArray lim (p0,last) 5 pos hd om none #[] [] 0 none sn).attemptFrom s first=S0 t lim last s first sn:=by
 unfold M.attemptFrom
 rw[ND]
 rfl
theorem Sa{t:Txt}{lim pc pos hd:Nat}{start:SP}{om b:Bool}{sn:Seen}:(mk BL t.toArray lim start pc pos hd om none #[] [] 0 (some b) sn).step={mk BL t.toArray lim start pc pos hd om none #[] [] 0 (some b) sn with outcome:=some (if b then .matched else .failed)}:=rfl
theorem Ij{t:Txt}{lim s last pos hd:Nat}{om first:Bool}{sn:Seen}:M.resume (mk BL t.toArray lim (s,last) 5 pos hd om none #[] [] 0 none sn) (nx 5 s first) false=if s < last then S0 t lim last (s+1) false sn else mk BL t.toArray lim (s,last) 5 pos hd om none #[] [] 0 (some false) sn:=by
 show(if s < last then M.attemptFrom (mk BL t.toArray lim (s,last) 5 pos hd om none #[] [] 0 none sn) (s+1) false else _)=_
 rw[NA];rfl
theorem UH{t:Txt}{lim last c:Nat}{Fs:Nat→Option Nat}(hc:1+c≤16777216)(hF:∀s,s≤last→B BL t.toArray lim (s,last) false c 5 s none #[] (Fs s)):∀(n s:Nat) (first:Bool) (sn:Seen),s+n=last→
  R ((n+1)*(c+3)) (S0 t lim last s first sn) (On (Pd Fs n s)):=by
 intro n
 induction n with
 |zero=>
  intro s first sn hs
  have hB:=hF s (by lia)
  show R _ _ (On (match Fs s with |some e=>some (s,e) |none=>none))
  refine R.mono (hB s first [nx 5 s first] 1 sn 2 _ hc fun pc hd pos om I' L' sn' h4 h5=>?_) (by lia)
  induction q:Fs s using zh with
  |some e=>
   rw[q]at h4
   have he:=h4 e rfl
   exact R.step (A3 (nx 5 s first) rfl true) (R.step rfl (R.here ⟨rfl,he,rfl,rfl,rfl,rfl⟩))
  |none=>
   rw[q]at h5
   refine Ao (h5 (.inl rfl)) fun h6 h7=>?_
   rw[h6,h7]
   exact R.step ((A3 (nx 5 s first) rfl false).trans (Ij.trans (zP (by lia)))) (R.step Sa (R.here rfl))
 |succ n ih=>
  intro s first sn hs
  have hB:=hF s (by lia)
  show R _ _ (On (match Fs s with |some e=>some (s,e) |none=>Pd Fs n (s+1)))
  have eN:(n+1+1)*(c+3)=(n+1)*(c+3)+(c+3):=Nat.succ_mul _ _
  refine R.mono (hB s first [nx 5 s first] 1 sn ((n+1)*(c+3)+2) _ hc fun pc hd pos om I' L' sn' h4 h5=>?_) (by lia)
  induction q:Fs s using zh with
  |some e=>
   rw[q]at h4
   have he:=h4 e rfl
   exact R.mono (R.step (A3 (nx 5 s first) rfl true) (R.step (n:=0) rfl (R.here ⟨rfl,he,rfl,rfl,rfl,rfl⟩))) (by lia)
  |none=>
   rw[q]at h5
   refine Ao (h5 (.inl rfl)) fun h6 h7=>?_
   rw[h6,h7]
   exact R.mono (R.step ((A3 (nx 5 s first) rfl false).trans (Ij.trans (zX (by lia)))) (ih (s+1) false sn' (by lia))) (by lia)
theorem HD{code text:Array Nat}{pos lim:Nat}:∃sn,forSearch code text 0 pos lim false=if(decide (pos >lim) || decide (lim - pos < (header code).1))=true then mk code text lim (pos,0) (header code).2 pos pos true none #[] [] 0 (some false) sn else
  M.attemptFrom (mk code text lim (pos,if(decide ((header code).1 >1) && !((header code).2 !=0 && code.getD 2 0 &&& 5 !=0))=true then max pos (lim - ((header code).1 - 1))else lim) (header code).2 pos pos true none #[] [] 0 none sn) pos true:=by
 refine⟨if(header code).2==0 then{}else({}:Sre.Seen).add 14,?_⟩
 unfold forSearch
 by_cases h:(decide (pos >lim) || decide (lim - pos < (header code).1))=true
 ·rw[zX h,zX h];rfl
 ·rw[zP h,zP h];rfl
theorem Tu:header BL=(3,5):=by
 unfold header
 have h0:BL.getD 0 0=14:=by decide+kernel
 have h1:BL.getD 1 0=4:=by decide+kernel
 have h3:BL.getD 3 0=3:=by decide+kernel
 rw[h0,h1,h3];rfl
theorem IX{t:Txt}{pos lim:Nat}(h:pos≤lim):∃sn,forSearch BL t.toArray 0 pos lim false=cond (Nat.blt (lim - pos) 3) (mk BL t.toArray lim (pos,0) 5 pos pos true none #[] [] 0 (some false) sn) (S0 t lim (max pos (lim - 2)) pos true sn):=by
 refine zg (HD (code:=BL) (text:=t.toArray) (pos:=pos) (lim:=lim)) fun sn e=>⟨sn,?_⟩
 have h2:BL.getD 2 0=0:=by decide+kernel
 rw[Tu,h2]at e
 have e0:decide (pos >lim)=false:=zJ (Nat.not_lt.mpr h)
 rw[e0,Bool.false_or]at e
 rw[e]
 show(if decide (lim - pos < 3)=true then _ else M.attemptFrom (mk BL t.toArray lim (pos,max pos (lim - 2)) 5 pos pos true none #[] [] 0 none sn) pos true)=_
 rw[NA]
 induction q:Nat.blt (lim - pos) 3 using za with
 |true=>
  have hl:lim - pos < 3:=zp q
  rw[zX (js hl),jz]
 |false=>
  have hl:¬lim - pos < 3:=fun hc=>by rw[Nat.blt,zt hc]at q;exact Bool.noConfusion q
  rw[zP (by rw[zJ hl];exact jE),z6]
theorem Te{n:Nat}(h:n≤50000):1+(310*n+1000)≤16777216:=by lia
theorem Tf{n:Nat}(h:n≤50000):310*n+1000+3≤15501003:=by lia
theorem ZO{t:Txt}{pos lim:Nat}(h:pos≤lim)(hq:lim≤t.length)(hf:t.length≤50000):∃k,k < 4*2 ^ 64∧On (DZ t pos lim) (iter k (forSearch BL t.toArray 0 pos lim false)):=by
 refine zg (IX (t:=t) h) fun sn e=>?_
 rw[e]
 unfold DZ
 induction q:Nat.blt (lim - pos) 3 using za with
 |true=>rw[jz,jz];exact⟨1,by decide,rfl⟩
 |false=>
  rw[z6,z6]
  have hm:max pos (lim - 2)≤lim:=Nat.max_le.mpr ⟨h,jJ _ _⟩
  have hl:=zl hq hf
  refine Ab (UH (t:=t) (lim:=lim) (last:=max pos (lim - 2)) (c:=310*lim+1000) (Fs:=Pe t lim) (Te hl) (fun s hs=>(ZB (zl hs hm) hq (zl hf (by decide))).mono (Nat.add_le_add_right (Nat.mul_le_mul_left _ (jJ _ _)) _)) (max pos (lim - 2) - pos) pos true sn (jw (Nat.le_max_left _ _))) fun k hk g=>⟨k,?_,g⟩
  refine jA (zl hk (Nat.mul_le_mul (zN (zl (jJ _ _) (zl hm hl))) (Tf hl))) (by decide)
end
section
open PySem PySem.W PySem.Calls PyProof.Rows Builtin Builtin.Re
theorem Hv(a b:Value):A5 "re.Pattern.search" "Pattern.search" ⟨[a,b],[]⟩:=by
 unfold A5;rw[Jt (id:="re.Pattern.search") (n:=['h','c','r','a','e','s']) (o:=['n','r','e','t','t','a','P','.','e','r']) (by kernel_rfl) Ci];kernel_rfl
theorem Hw(a b c:Value):A5 "re.Pattern.search" "Pattern.search" ⟨[a,b,c],[]⟩:=by
 unfold A5;rw[Jt (id:="re.Pattern.search") (n:=['h','c','r','a','e','s']) (o:=['n','r','e','t','t','a','P','.','e','r']) (by kernel_rfl) Ci];kernel_rfl
theorem HA(a b c d:Value):A5 "re.Pattern.search" "Pattern.search" ⟨[a,b,c,d],[]⟩:=by
 unfold A5;rw[Jt (id:="re.Pattern.search") (n:=['h','c','r','a','e','s']) (o:=['n','r','e','t','t','a','P','.','e','r']) (by kernel_rfl) Ci];kernel_rfl
theorem Lo:builtinKind "re.Pattern.search"=some .method:=by decide+kernel
theorem IR:entryFor table "re.Pattern.search"=some Builtin.«re.Pattern.search»:=Jy (by kernel_rfl)
theorem OU:typeLookup (.type "re.Pattern") "search"=pure (some (.builtin "re.Pattern.search")):=by rw[jC,jb];kernel_rfl
theorem LW:Slot "re.Pattern" "search" "re.Pattern.search":=
 .of (owner:="re.Pattern") (n:="search") OU (by decide+kernel) (by decide+kernel) (by decide+kernel)
  (by first |exact .inl (by decide+kernel) |exact .inr (by decide+kernel)) (by rw[j9];kernel_rfl)
theorem Pm:Manifest.varargsMethods.contains "re.Pattern.search"=false:=by decide+kernel
theorem Li:s!"{Bind.lastOf "re.Pattern"}.{Bind.lastOf "re.Pattern.search"}"="Pattern.search":=by kernel_rfl
section
variable {prog:Program}{w:World}{A:Around}{s:Shared}{Ev:Value→Shared→Prop}
theorem Po{r:Option (Nat×Nat)}{m:Sre.M}{k:Nat}(hk:k < 4*2 ^ 64)(g:On r (iter k m)){Q:Option Sre.M→Shared→Prop}(hq:match r with |some p=>∀m,On (some p) m→Q (some m) s |none=>Q none s):wpAny (model prog w) A (reRunToEnd m) Q Ev s:=by
 unfold reRunToEnd
 refine zn (Hj _ k m _ hk ?_ ?_)
 ·induction r using zh with
  |none=>rw[show(iter k m).outcome=some .failed from g];rfl
  |some e=>rw[g.1];rfl
 ·refine zn (KK (fun b Q hQ=>?_) ?_ _)
  ·by_cases hc:(iter k m).seen.has b=true
   ·rw[zX hc];exact zn (qe (zG hQ))
   ·rw[zP hc];exact zG hQ
  ·induction r using zh with
   |none=>rw[show(iter k m).outcome=some .failed from g];exact zG hq
   |some e=>rw[g.1];exact zG (hq _ g)
end
section
variable {c:Cx}{S:Sx}{f:Fx}{A:Around}{R:Rec}{σ:St}{s:Shared}{pat:Addr}
theorem Ez{Ev:Value→Shared→Prop}(r:Al c f R σ s.heap){t:Txt}{tk:Tok}{rest:List Value}{p lim:Nat}{v:Val}(hp:p≤lim)(hl:lim≤t.length)(hf:t.length≤50000)(hv:CM (DZ t p lim)=some v)
  (ht:∀(Q:ReTarget→Shared→Prop) (A:Around),Q {pattern:=.ref pat,string:=.str ⟨t.toArray⟩ tk,code:=BL,text:=t.toArray,kind:=0,groups:=0,pos:=p,lim:=lim} s→wpAny (model c.prog c.w) A (reTarget "re.Pattern.search" "search" ⟨.ref pat::.str ⟨t.toArray⟩ tk::rest,[]⟩) Q Ev s)
  {Q:Value→Shared→Prop} (hq:∀R' rv s',R.le R'→Ar s s'→Al c f R' σ s'.heap→c.V R' v rv→Q rv s'):
  wpAny (model c.prog c.w) A (Builtin.«re.Pattern.search» ⟨.ref pat::.str ⟨t.toArray⟩ tk::rest,[]⟩) (fun fin s'=>∃v,fin=.done (.ret v)∧Q v s') Ev s:=by
 unfold Builtin.«re.Pattern.search»
 refine zn (ht _ _ ?_)
 unfold reAnswer
 refine Ab (ZO hp hl hf) fun k hk g=>?_
 generalize DZ t p lim=res at hv g
 refine zn (Po (r:=res) (k:=k) hk g ?_)
 induction res using zh with
 |none=>
  cases hv
  exact zG ⟨_,rfl,hq R _ s (.refl R) (.refl s) r .none⟩
 |some e=>
  cases hv
  intro m g
  refine zn (Gm g ?_)
  refine zG ⟨_,rfl,?_⟩
  refine Aq r ?_;clear r;intro mm led r
  refine Gw (r.frozen (r.F.push (seqObj true [rawInt e.1,rawInt e.2] 0)) (JZ r.F r.N (seqObj true [rawInt e.1,rawInt e.2] 0)) (fun p hp=>jv (r.N p hp).1)) fun R1 le1 r1 z1 _ _=>?_
  have hsz:(s.heap.push (seqObj true [rawInt e.1,rawInt e.2] 0)).objs.size=s.heap.objs.size+1:=by simp[Heap.push]
  refine Gw (r1.frozen (r1.F.push (DF (.str ⟨t.toArray⟩ tk) (.ref pat) p lim (-1) s.heap.objs.size)) (JZ r1.F r1.N (DF (.str ⟨t.toArray⟩ tk) (.ref pat) p lim (-1) s.heap.objs.size)) (fun p hp=>jv (r1.N p hp).1)) fun R2 le2 r2 z2 _ _=>?_
  rw[hsz]at z2
  exact hq R2 _ _ (le1.trans le2) AB ⟨_,_,r2⟩ (.mt (.inr z2) (Cx.Z.mono le2 _ _ (.inr z1)))
structure Oq(K:Frag)(q:Addr):Prop where
 at_:∃pat,K.lookup q=some (KV "re.Pattern.search" (.ref pat))∧FN K pat BL
theorem MU{B':Around}{Ev:Value→Shared→Prop}(P:FN c.K pat BL)(X:c.K.In s.heap)(r:Al c f R σ s.heap){ws:List Val}{vs:List Value}{t:Txt}{p lim:Nat}{v:Val}
  (as:EH ws t p lim) (hp:p≤lim) (hf:t.length≤50000) (hvs:Mc c R s.heap ws vs) (hv:CM (DZ t p lim)=some v) {Q:Value→Shared→Prop} (hq:∀R' rv s',R.le R'→Ar s s'→Al c f R' σ s'.heap→c.V R' v rv→Q rv s'):
  wpAny (model c.prog c.w) B' (Builtin.«re.Pattern.search» ⟨.ref pat::vs,[]⟩) (fun fin s'=>∃v,fin=.done (.ret v)∧Q v s') Ev s:=by
 refine EG P.at_ fun p0 fl ct sl sl2 h0=>Ab h0 fun n k1 k2=>?_
 have g1:=X _ _ k1
 have g2:=X _ _ k2
 cases as with
 |one=>
  cases hvs with |cons a b=>cases b with |nil=>
  refine Ab (EE a) fun tk hq1 hl=>?_;subst hq1
  exact Ez (rest:=[]) r hp (zw _) hf hv (fun Q A h=>Hk g1 g2 h hl) hq
 |two _ p hp'=>
  cases hvs with |cons a b=>cases b with |cons a' b=>cases b with |nil=>
  refine Ab (EE a) fun tk hq1 hl=>?_;subst hq1
  refine zg (FL a') fun u hq1=>?_;subst hq1
  exact Ez (rest:=[.int (.ofNat p) u]) r hp (zw _) hf hv (fun Q A h=>Hl g1 g2 h hl hp') hq
 |three _ p q hp' hq'=>
  cases hvs with |cons a b=>cases b with |cons a' b=>cases b with |cons a'' b=>cases b with |nil=>
  refine Ab (EE a) fun tk hq1 hl=>?_;subst hq1
  refine zg (FL a') fun u hq1=>?_;subst hq1
  refine zg (FL a'') fun u' hq1=>?_;subst hq1
  exact Ez (rest:=[.int (.ofNat p) u,.int (.ofNat lim) u']) r hp hq' hf hv (fun Q A h=>Hm g1 g2 h hl hp' hq') hq
theorem Mj{ws:List Val}{vs:List Value}{t:Txt}{p lim:Nat}{R:Rec}{h:Heap}(as:EH ws t p lim)(hvs:Mc c R h ws vs)(a:Value):A5 "re.Pattern.search" "Pattern.search" ⟨a::vs,[]⟩:=by
 cases as with
 |one=>cases hvs with |cons _ b=>cases b with |nil=>exact Hv _ _
 |two=>cases hvs with |cons _ b=>cases b with |cons _ b=>cases b with |nil=>exact Hw _ _ _
 |three=>cases hvs with |cons _ b=>cases b with |cons _ b=>cases b with |cons _ b=>cases b with |nil=>exact HA _ _ _ _
theorem Rn{n:Str}{q:Addr}{sem:List Val→Option Val}(g:KL c S n (.ref q))(P:Oq c.K q)(hs:∀ws v,sem ws=some v→∃t p lim,EH ws t p lim∧p≤lim∧t.length≤50000∧CM (DZ t p lim)=some v):Bb c S n sem:=by
 intro d f A X R σ s a npos pos x xs Ev Q hp h
 rw[Au]
 refine zn (Er a g ?_)
 refine Ab P.at_ fun pat k1 Pp=>?_
 refine callWith_bound (id:="re.Pattern.search") (self:=.ref pat) hp (zZ h (fun vs s₁ h₁=>?_) fun _ _ x=>x)
 refine DE h₁ fun R₁ σ₁ ws hvs h=>BM h fun v hv a₁ hq=>?_
 have r₁:=a₁.r
 refine Aq a₁.r fun m led r=>?_
 have Xs:c.K.In s₁.heap:=a₁.G.X.keeps r.F.keep
 refine AR (hs ws v hv) fun t p lim as hpl hf hm=>?_
 refine⟨Xs _ _ k1,?_⟩
 refine EG Pp.at_ fun p0 fl ct sl sl2 h0=>Ab h0 fun nn e1 e2=>?_
 have hrun:wpAny (model c.prog c.w) A.in1 (Builtin.«re.Pattern.search» ⟨.ref pat::vs,[]⟩) (fun fin s'=>∃v,fin=.done (.ret v)∧Q v s') Ev s₁:=MU Pp Xs r₁ as hpl hf hvs hm hq
 have hchk:wpAny (model c.prog c.w) A.in1 (checkBoundCall "re.Pattern.search" ⟨.ref pat::vs,[]⟩) (fun _ s₁=>wpAny (model c.prog c.w) A.in1 (Builtin.«re.Pattern.search» ⟨.ref pat::vs,[]⟩) (fun fin s'=>∃v,fin=.done (.ret v)∧Q v s') Ev s₁) Ev s₁:=
  @DP c.prog c.w A.in1 s₁ (fun _ s₁=>wpAny (model c.prog c.w) A.in1 (Builtin.«re.Pattern.search» ⟨.ref pat::vs,[]⟩) (fun fin s'=>∃v,fin=.done (.ret v)∧Q v s') Ev s₁) Ev "re.Pattern.search" "re.Pattern" "Pattern.search" (.ref pat) pat vs _ rfl (Xs _ _ e1) rfl LK Lo (Mj as hvs (.ref pat)) Og Pm Li hrun
 exact Ep (Xs _ _ k1) LW.plain IR hchk
end
end
end Ak.Rxm
section
open PySem PySem.W PySem.Calls PyProof.Rows
namespace Ak.Rxm
section
noncomputable def CR:Rx:=⟨E0,S6,ER,KE,DZ⟩
section
variable {c:Cx}{S:Sx}
theorem XC{n:Str}{q:Addr}{codes:Array Nat}{op:P2}{F:Txt→Nat→Option Nat}(g:KL c S n (.ref q))(P:Ht c.K q codes)
  (hop:∀x y v,AG CR op x y=some v→∃t p,x=.str t∧y=.int (.ofNat p)∧p≤t.length∧t.length≤100000∧CL p (F t p)=some v)
  (hm:∀{t:Txt} {p:Nat},p≤t.length→t.length≤100000→Meets codes t p t.length (F t p)):Bb c S n (fun |[x,y]=>AG CR op x y |_=>none):=by
 refine VB g P fun ws v h=>?_
 induction ws using zi with
 |nil=>cases h
 |cons x ws=>induction ws using zi with
  |nil=>cases h
  |cons y ws=>induction ws using zi with
   |nil=>
    refine Vc (hop x y v h) fun t p hq2 hq3 h1 h2 h3=>?_;subst hq2;subst hq3
    exact⟨t,p,t.length,_,.two t p h1,hm h1 h2,h3⟩
   |cons _ _=>cases h
theorem Xa{p:Nat}{t:Txt}{o:Option Nat}{v:Val}(h:cond (Nat.ble p t.length && Nat.ble t.length 100000) (CL p o) none=some v):p≤t.length∧t.length≤100000∧CL p o=some v:=by
 induction q:(Nat.ble p t.length && Nat.ble t.length 100000)using za with
 |false=>rw[q]at h;cases h
 |true=>
  rw[q]at h
  rw[jp]at q
  exact⟨zp q.1,zp q.2,h⟩
theorem T4{n:Str}{q:Addr}(g:KL c S n (.ref q))(P:Ht c.K q Cd):Bb c S n (fun |[x,y]=>AG CR .junk x y |_=>none):=by
 refine XC (F:=E0) g P (fun x y v h=>?_) Xv
 induction x using Val.casesOn with
 |str t=>induction y using Val.casesOn with
  |int i=>induction i using zW with
   |ofNat p=>exact⟨t,p,rfl,rfl,Xa h⟩
   |negSucc _=>cases h
  |_=>cases h
 |_=>cases h
theorem QB{p q:Nat}{t:Txt}{o:Option Nat}{v:Val}(h:cond (Nat.ble p q && (Nat.ble q t.length && Nat.ble t.length 100000)) (CL p o) none=some v):p≤q∧q≤t.length∧t.length≤100000∧CL p o=some v:=by
 induction e:(Nat.ble p q && (Nat.ble q t.length && Nat.ble t.length 100000))using za with
 |false=>rw[e]at h;cases h
 |true=>
  rw[e]at h
  rw[jp,jp]at e
  exact⟨zp e.1,zp e.2.1,zp e.2.2,h⟩
theorem LE{n:Str}{q:Addr}{codes:Array Nat}{op:P3}{F:Txt→Nat→Nat→Option Nat}(g:KL c S n (.ref q))(P:Ht c.K q codes)
  (hop:∀x y z v,Dr CR op x y z=some v→∃t p q,x=.str t∧y=.int (.ofNat p)∧z=.int (.ofNat q)∧p≤q∧q≤t.length∧t.length≤100000∧CL p (F t p q)=some v)
  (hm:∀{t:Txt} {p q:Nat},p≤q→q≤t.length→t.length≤100000→Meets codes t p q (F t p q)):Bb c S n (fun |[x,y,z]=>Dr CR op x y z |_=>none):=by
 refine VB g P fun ws v h=>?_
 induction ws using zi with
 |nil=>cases h
 |cons x ws=>induction ws using zi with
  |nil=>cases h
  |cons y ws=>induction ws using zi with
   |nil=>cases h
   |cons z ws=>induction ws using zi with
    |nil=>
     refine eV (hop x y z v h) fun t p q hq3 hq4 hq5 h1 h2 h3 h4=>?_;subst hq3;subst hq4;subst hq5
     exact⟨t,p,q,_,.three t p q (zl h1 h2) h2,hm h1 h2 h3,h4⟩
    |cons _ _=>cases h
theorem T3{n:Str}{q:Addr}(g:KL c S n (.ref q))(P:Ht c.K q EQ):Bb c S n (fun |[x,y,z]=>Dr CR .chew x y z |_=>none):=by
 refine LE (F:=ER) g P (fun x y z v h=>?_) Xu
 induction x using Val.casesOn with
 |str t=>induction y using Val.casesOn with
  |int i=>induction i using zW with
   |ofNat p=>induction z using Val.casesOn with
    |int j=>induction j using zW with
     |ofNat q=>exact⟨t,p,q,rfl,rfl,rfl,QB h⟩
     |negSucc _=>cases h
    |_=>cases h
   |negSucc _=>cases h
  |_=>cases h
 |_=>cases h
theorem Ro{n:Str}{q:Addr}(g:KL c S n (.ref q))(P:Ht c.K q AJ):Bb c S n (fun |[x,y,z]=>Dr CR .strre x y z |_=>none):=by
 refine LE (F:=KE) g P (fun x y z v h=>?_) TU
 induction x using Val.casesOn with
 |str t=>induction y using Val.casesOn with
  |int i=>induction i using zW with
   |ofNat p=>induction z using Val.casesOn with
    |int j=>induction j using zW with
     |ofNat q=>exact⟨t,p,q,rfl,rfl,rfl,QB h⟩
     |negSucc _=>cases h
    |_=>cases h
   |negSucc _=>cases h
  |_=>cases h
 |_=>cases h
theorem T5{n:Str}{q:Addr}(g:KL c S n (.ref q))(P:Oq c.K q):Bb c S n (fun |[x]=>Bw CR .syn1 x |_=>none):=by
 refine Rn g P fun ws v h=>?_
 induction ws using zi with
 |nil=>cases h
 |cons x ws=>induction ws using zi with
  |nil=>induction x using Val.casesOn with
   |str t=>
    have h:cond (Nat.ble t.length 50000) (CM (DZ t 0 t.length)) none=some v:=h
    induction e:Nat.ble t.length 50000 using za with
    |false=>rw[e]at h;cases h
    |true=>rw[e]at h;exact⟨t,0,t.length,.one t,zH _,zp e,h⟩
   |_=>cases h
  |cons _ _=>cases h
theorem T6{n:Str}{q:Addr}(g:KL c S n (.ref q))(P:Oq c.K q):Bb c S n (fun |[x,y]=>AG CR .syn2 x y |_=>none):=by
 refine Rn g P fun ws v h=>?_
 induction ws using zi with
 |nil=>cases h
 |cons x ws=>induction ws using zi with
  |nil=>cases h
  |cons y ws=>induction ws using zi with
   |nil=>induction x using Val.casesOn with
    |str t=>induction y using Val.casesOn with
     |int i=>induction i using zW with
      |ofNat p=>
       have h:cond (Nat.ble p t.length && Nat.ble t.length 50000) (CM (DZ t p t.length)) none=some v:=h
       induction e:(Nat.ble p t.length && Nat.ble t.length 50000)using za with
       |false=>rw[e]at h;cases h
       |true=>
        rw[e]at h
        rw[jp]at e
        exact⟨t,p,t.length,.two t p (zp e.1),zp e.1,zp e.2,h⟩
      |negSucc _=>cases h
     |_=>cases h
    |_=>cases h
   |cons _ _=>cases h
theorem T7{n:Str}{q:Addr}(g:KL c S n (.ref q))(P:Oq c.K q):Bb c S n (fun |[x,y,z]=>Dr CR .syn3 x y z |_=>none):=by
 refine Rn g P fun ws v h=>?_
 induction ws using zi with
 |nil=>cases h
 |cons x ws=>induction ws using zi with
  |nil=>cases h
  |cons y ws=>induction ws using zi with
   |nil=>cases h
   |cons z ws=>induction ws using zi with
    |nil=>induction x using Val.casesOn with
     |str t=>induction y using Val.casesOn with
      |int i=>induction i using zW with
       |ofNat p=>induction z using Val.casesOn with
        |int j=>induction j using zW with
         |ofNat q'=>
          have h:cond (Nat.ble p q' && (Nat.ble q' t.length && Nat.ble t.length 50000)) (CM (DZ t p q')) none=some v:=h
          induction e:(Nat.ble p q' && (Nat.ble q' t.length && Nat.ble t.length 50000))using za with
          |false=>rw[e]at h;cases h
          |true=>
           rw[e]at h
           rw[jp,jp]at e
           have h1:=zp e.1
           have h2:=zp e.2.1
           exact⟨t,p,q',.three t p q' (zl h1 h2) h2,h1,zp e.2.2,h⟩
         |negSucc _=>cases h
        |_=>cases h
       |negSucc _=>cases h
      |_=>cases h
     |_=>cases h
    |cons _ _=>cases h
theorem i3{n:Str}{pat:Addr}{x:PySem.Expr}{p q q':Pos}(g:KL c S n (.ref pat))(P:FN c.K pat ZH)(hp:Ag x=true)(hl:(q.endLine==p.line)=true):EM c S x (.Call (.Attribute (.Name n q') "match" q) [x] [] p) (Bw CR .bs):=by
 refine Ve g P hp hl fun w v h=>?_
 induction w using Val.casesOn with
 |str t=>
  have h:cond (Nat.ble t.length 100000) (CL 0 (S6 t)) none=some v:=h
  induction e:Nat.ble t.length 100000 using za with
  |false=>rw[e]at h;cases h
  |true=>rw[e]at h;exact⟨t,_,rfl,gE (zp e),h⟩
 |_=>cases h
end
end
end Ak.Rxm
namespace Ak
section
set_option maxHeartbeats 4000000
noncomputable def Dh(P:Ne)(d:Nat):Cfg:=⟨P.rx,AD P d,P.init,P.nf⟩
theorem ZE{c:Cx}{C:Cfg}{d:Nat}{D:En}{fa:Addr}{cd:Value}{ss:Ss}{T:Tb}(ok:EJ c)(HC:A4 c C d c.mth)(W:Zr c C d ⟨D.names,D.scope,D.Ah⟩ T)(h:Fy T ss 0=true)(hb:C2 T ss 0=D.body):KM c C d D.body D.qual D.scope fa cd D.names D.Ah ss:=by
 intro f A R σ s m led X K h1 h2 h3 h4 h5 h6 h7 G NM hpos r hX hw Ev Q hq
 rw[←hb]
 refine Sj W ok HC ss 0 h f A X R σ s K ⟨G,NM,h6,h2,h7,hpos,⟨m,led,r⟩,hX⟩ hw Ev Q fun o σ' R' fl s' le sm hk rx hfl=>hq o σ' R' fl s' le sm hk rx ?_
 induction hfl using Ix.casesOn with
 |next=>trivial
 |brk=>trivial
 |cont=>trivial
 |ret hl=>exact hl
theorem Oy{c:Cx}{P:Ne}{Ds:List (En×Addr×Value)}(ok:EJ c)(H:DK c P Ds)(hmth:c.mth=H8 Ds)
  (hT:∀d,A4 c (Dh P d) d c.mth→∀(k:Nat) (D:En) (a:Addr) (cdv:Value) (fn:Fn),Ds[k]? =some (D,a,cdv)→P.fns[k]? =some fn→KM c (Dh P d) d D.body D.qual D.scope a cdv D.names D.Ah fn.body) (d:Nat):A4 c (Dh P d) d c.mth:=by
 induction d with
 |zero=>exact fun _ _ _ _ _ _ _ _ h=>h.elim
 |succ d HC=>
  have go:=hT d HC
  rw[hmth]
  exact Ml (C:=Dh P (d+1)) (C':=Dh P d) H rfl rfl go
structure KF(c:Cx)(Dj:List Str)(mtn:Nat)(cls:Str)(fI:Addr):Prop where
 bi:∀n∈(["len","sum","tuple","range","isinstance","int"]:List Str),nsIn c.K mainGlobals n=some none
 junk:∃q,nsIn c.K mainGlobals "_junkre"=some (some (.ref q))∧Rxm.Ht c.K q Rxm.Cd
 Em:∃q,nsIn c.K mainGlobals "_synchre"=some (some (.ref q))∧Rxm.Oq c.K q
 chew:∃q,nsIn c.K mainGlobals "_chew_ordinaryre"=some (some (.ref q))∧Rxm.Ht c.K q Rxm.EQ
 strre:∃q,nsIn c.K mainGlobals "_match_stringre"=some (some (.ref q))∧Rxm.Ht c.K q Rxm.AJ
 bs:∃q,nsIn c.K mainGlobals "_twin_re_7"=some (some (.ref q))∧Rxm.FN c.K q Rxm.ZH
 tr:∃q,nsIn c.K mainGlobals "trans"=some (some (.ref q))∧Mb c.K q
 fn:∀k,mtn≤k→k < Dj.length→c.mth k=false∧∃a,c.fad[k]? =some a∧nsIn c.K mainGlobals (AH Dj k)=some (some (.ref a))∧keepIn c.K (.ref a)=true
 mt:∀k,k < mtn→SX c (AH Dj k) k
 cl:nsIn c.K mainGlobals cls=some (some (.ref c.PC))∧keepIn c.K (.ref c.PC)=true∧makesIn c.K c.PC=true∧findIn c.K (.ref c.PC) "__init__"=some (some (.ref fI))∧isFn c.K (.ref fI)=true
noncomputable def ac(cs:Scope)(n:Str)(k:NameKind):Bool:=cs.names.lookup n==some k
noncomputable def aG(n:Str):Bool:= !(n==("__debug__":Str))
noncomputable def aE(cs:Scope)(self:Str)(Ah:Bool)(names cells gls:List Str):Bool:=
 decide (cs.kind=.function) && (names.all (fun n=>ac cs n (cond (BF cells n) .cell .local)) && (gls.all (fun n=>ac cs n .globalImplicit && aG n) && ((!Ah || (ac cs self .local && aG self)) && ((!(BF gls "isinstance") || BF gls "int") && (!(BF gls "_itemre") && cells.all (fun n=>ac cs n .cell))))))
theorem GT{cs:Scope}{n:Str}{k:NameKind}(h:ac cs n k=true):cs.names.lookup n=some k:=eq_of_beq h
theorem OZ(n:Str):LD n n=true:=by
 unfold LD
 induction n.cps.toList with
 |nil=>rfl
 |cons a r ih=>show cond (Nat.beq a a) (Bt r r) false=true;rw[Jd];exact ih
theorem D9{l:List Str}{n:Str}(h:n∈l):BF l n=true:=by
 induction l with
 |nil=>exact nomatch h
 |cons m r ih=>
  show(LD m n || BF r n)=true
  induction z5.mp h using jI with
  |inl e=>rw[e,OZ];rfl
  |inr h=>rw[ih h];exact Bool.or_true _
section
variable {c:Cx}{P:Ne}{d:Nat}{S:Sx}{Dj:List Str}{mtn:Nat}{cls cv:Str}{ps:Nat}{fI:Addr}{cells gls:List Str}
theorem Vd{rx:Rx}{x:PySem.Expr}{p q q':Pos}(b:Px c S "isinstance" (.builtin "isinstance"))(bt:Px c S "int" (.type "int"))(hp:Ag x=true):EM c S x (.Call (.Name "isinstance" q) [x,.Name "int" q'] [] p) (Bw rx .isint):=by
 intro d f A X R σ s a Ev Q h
 rw[Au]
 refine zn (Fk a b (PyProof.Rows.callWith_builtin1 (je (zZ h (fun rv s₁ h₁=>?_) fun _ _ x=>x) (Aa hp)) (Aa hp) (Aw rfl)))
 obtain⟨R₁,σ₁,w,hw,v,hv,a₁,hq⟩:=h₁
 refine je (Fk a₁ bt (jT ?_)) (Aa rfl)
 induction w using Val.casesOn with
 |int i=>
  refine zg (show∃t,rv=Value.int i t from ?_) fun t e=>?_
  ·cases hw with
   |of h=>exact h.inv
  rw[e]
  rw[←ze hv]at hq
  exact PySem.IsiPair.int_int (hq R₁ (.bool true) s₁ (.refl _) (.refl _) a₁.r (.bool _))
 |_=>cases hv
theorem V7(F:KF c Dj mtn cls fI)(hrx:P.rx=Rxm.CR)(hnf:P.nf=c.attrs.length)(hI:c.fad[P.init]? =some fI)(hIm:c.mth P.init=true)(L:KN c)(HC:A4 c (Dh P d) d c.mth)(h:aE S.cs c.self S.Ah S.names cells gls=true):
  Zr c (Dh P d) d S ⟨S.names,c.attrs,c.self,S.Ah,cells,gls,c.gl,Dj,mtn,cls,cv,⟨.function,[],false,false,[]⟩,ps⟩:=by
 unfold aE at h
 have h0:=Ad h
 have h1:=Ad h0.2
 have h2:=Ad h1.2
 have h3:=Ad h2.2
 have hint:("isinstance":Str)∈gls→("int":Str)∈gls:=fun hn=>by
  have q:=(Ad h3.2).1
  rw[D9 hn]at q
  exact AN q
 have hit:("_itemre":Str)∉gls:=fun hn=>by
  have q:=DH (Ad (Ad h3.2).2).1
  rw[D9 hn]at q
  exact nomatch q
 have gsc:∀n∈gls,S.cs.names.lookup n=some .globalImplicit∧(n==("__debug__":Str))=false:=fun n hn=>
  have q:=Ad (zR.mp h2.1 n hn)
  ⟨GT q.1,DH q.2⟩
 have gl:∀{n:Str} {v:Value},n∈gls→nsIn c.K mainGlobals n=some (some v)→KL c S n v:=fun hn e=>⟨e,(gsc _ hn).1,(gsc _ hn).2⟩
 have bi:∀{n:Str} {v:Value},n∈gls→n∈(["len","sum","tuple","range","isinstance","int"]:List Str)→bootBuiltins n=some v→n≠"__name__"→Px c S n v:=fun hn hm hb hne=>⟨F.bi _ hm,hb,hne,(gsc _ hn).1,(gsc _ hn).2⟩
 have nk:∀n∈S.names,S.cs.names.lookup n=some (cond (BF cells n) .cell .local):=fun n hn=>GT (zR.mp h1.1 n hn)
 have C1:(Dh P d).rx=Rxm.CR:=hrx
 have mm:∀{n:Str} {l:List Str},BF l n=true→n∈l:=AN
 refine⟨{names:=rfl,attrs:=rfl,self:=rfl,Ah:=rfl,gl:=rfl,kfun:=z7 h0.1,loc:=fun n hn=>?_,sk:=fun hm=>?_,gsc:=gsc,n1:=fun o ho hn=>?_,n2:=fun o ho hn=>?_,n3:=fun o ho hn=>?_,sq:=fun hn=>?_,bs:=fun hn=>?_,me:=TX,ms:=OX,mp:=Ri,mx:=OW,mf:=Rf,m4:=Rg,mr:=OY,fn:=fun k h1 h2 hn _=>?_,mt:=F.mt,new:=fun hm hn=>?_,ic:=fun k q p n x e hn hp i=>Qk L hn hp i,ii:=fun hn x p q q' hp=>?_},fun n hn hc=>?_,fun n hn=>?_,fun hn=>?_⟩
 ·rw[nk n hn];induction BF cells n using za <;>exact nofun
 ·have hm:S.Ah=true:=hm
  have h3:=h3.1
  rw[hm]at h3
  exact⟨GT (Ad h3).1,DH (Ad h3).2⟩
 ·rw[C1]
  induction o using P1.casesOn with
  |len=>exact XA (bi hn (mm (by kernel_rfl)) rfl (by decide+kernel))
  |sum=>exact XB (bi hn (mm (by kernel_rfl)) rfl (by decide+kernel))
  |tuple=>exact Rq (bi hn (mm (by kernel_rfl)) rfl (by decide+kernel))
  |syn1=>exact Ab F.Em fun q e1 e2=>Rxm.T5 (gl hn e1) e2
  |_=>exact ft ho
 ·rw[C1]
  induction o using P2.casesOn with
  |junk=>exact Ab F.junk fun q e1 e2=>Rxm.T4 (gl hn e1) e2
  |syn2=>exact Ab F.Em fun q e1 e2=>Rxm.T6 (gl hn e1) e2
  |_=>exact ft ho
 ·rw[C1]
  induction o using P3.casesOn with
  |chew=>exact Ab F.chew fun q e1 e2=>Rxm.T3 (gl hn e1) e2
  |strre=>exact Ab F.strre fun q e1 e2=>Rxm.Ro (gl hn e1) e2
  |syn3=>exact Ab F.Em fun q e1 e2=>Rxm.T7 (gl hn e1) e2
  |_=>exact ft ho
 ·exact Ab F.tr fun q e1 e2 x p q q' hb hl=>Pr e2 (gl hn e1) hb hl
 ·rw[C1]
  exact Ab F.bs fun q e1 e2 x p q q' hb hl=>Rxm.i3 (gl hn e1) e2 hb hl
 ·exact Ao (F.fn k h1 h2) fun h5 h=>BM h fun ad h6 h7 h8=>⟨h5,ad,h6,gl hn h7,h8⟩
 ·refine@SM _ _ _ _ _ _ F.cl fun k1 k2 k3 k4 k5=>?_
  exact@Xz c (Dh P d) d S cls fI hm (gl hn k1) k2 k3 k4 k5 hI hIm hnf HC
 ·exact Vd (bi hn (mm (by kernel_rfl)) rfl (by decide+kernel)) (bi (hint hn) (mm (by kernel_rfl)) rfl (by decide+kernel)) hp
 ·have hc:BF cells n=false:=hc
  rw[nk n hn,hc];rfl
 ·exact GT (zR.mp (Ad (Ad h3.2).2).2 n hn)
 ·exact bi hn (mm (by kernel_rfl)) rfl (by decide+kernel)
end
end
noncomputable def fdOf(K:Frag)(a:Addr):FuncData:=match K.lookup a with
 |some ⟨_,_,.func fd,_⟩=>fd
 |_=>default
noncomputable def Ff(fd:FuncData):List Stmt:=match fd.body with
 | .stmts b=>b
 | .expr _=>[]
noncomputable def Nz(K:Frag)(a:Addr)(Ah:Bool)(pargs locs:List Str):En:=⟨(fdOf K a).name,(fdOf K a).qualname,(fdOf K a).params,Ff (fdOf K a),(fdOf K a).scope,Ah,pargs,locs⟩
noncomputable def aB:List Str→Bool
 |[]=>true
 |n::r=> !BF r n && aB r
noncomputable def kc(K:Frag)(self:Str)(a:Addr)(Ah:Bool)(pargs locs:List Str):Bool:=
 (match K.lookup a with
 |some ⟨_,_,.func fd,_⟩=>(match fd.body with | .stmts _=>true | .expr _=>false) && (Nat.beq fd.globals mainGlobals && (fd.closure.isEmpty && Nat.beq fd.builtins builtinsNs))
 |_=>false) &&
 (codeIn K (fdOf K a).code (fdOf K a).qualname && (keepIn K (.ref a) && (isFn K (.ref a) &&
 ((pargs++locs).all (fun n=>(fdOf K a).scope.names.lookup n==some .local && (!(n==("__debug__":Str)) && !(n==("__classdict__":Str)))) &&
 ((!Ah || (fdOf K a).scope.names.lookup self==some .local) && ((fdOf K a).scope.names.all (fun x=> !(x.2==.cell)) &&
 (!(fdOf K a).scope.isCoroutine && (!(fdOf K a).scope.isGenerator && (decide ((fdOf K a).scope.kind=.function) && (aB (pargs++locs) && !BF (pargs++locs) self))))))))))
theorem Kg:∀{l:List Str},aB l=true→l.Nodup
 |[],_=>List.nodup_nil
 |n::r,h=>by
  unfold aB at h
  rw[jp,JC]at h
  exact jU.mpr ⟨fun hm=>absurd (D9 hm) (by rw[h.1];simp),Kg h.2⟩
theorem XG{o:Option Obj}{P:FuncData→Bool}(h:(match o with |some ⟨_,_,.func fd,_⟩=>P fd |_=>false)=true):∃oc od fd osl,o=some ⟨oc,od,.func fd,osl⟩∧P fd=true:=by
 induction o using zh with
 |none=>exact nomatch h
 |some ob=>induction ob using Obj.casesOn with
  |mk oc od d osl=>induction d using Data.casesOn with
   |func fd=>exact⟨oc,od,fd,osl,rfl,h⟩
   |_=>exact nomatch h
theorem ZY{K:Frag}{a:Addr}(h0:(match K.lookup a with
 |some ⟨_,_,.func fd,_⟩=>(match fd.body with | .stmts _=>true | .expr _=>false) && (Nat.beq fd.globals mainGlobals && (fd.closure.isEmpty && Nat.beq fd.builtins builtinsNs))
 |_=>false)=true):∃oc od osl,K.lookup a=some ⟨oc,od,.func (fdOf K a),osl⟩∧(fdOf K a).body=.stmts (Ff (fdOf K a))∧(fdOf K a).globals=mainGlobals∧(fdOf K a).closure=[]∧(fdOf K a).builtins=builtinsNs:=by
 refine SN (XG h0) fun oc od fd osl e hP=>?_
 have ef:fdOf K a=fd:=by unfold fdOf;rw[e]
 rw[ef]
 refine Ao (zz.mp hP) fun q1 h=>Ao (zz.mp h) fun q2 h=>Ao (zz.mp h) fun q3 q4=>?_
 refine⟨oc,od,osl,e,?_,zD q2,Ji.mp q3,zD q4⟩
 unfold Ff
 induction q:fd.body using FuncBody.casesOn with
 |stmts b=>rfl
 |expr _=>rw[q]at q1;exact nomatch q1
theorem ZX(fd:FuncData)(e2:fd.body=.stmts (Ff fd))(e3:fd.globals=mainGlobals)(e4:fd.closure=[])(e5:fd.builtins=builtinsNs):
  fd=fnX fd.name fd.qualname fd.params (Ff fd) fd.scope [] fd.defaults fd.kwdefaults fd.doc fd.pyModule fd.annotations fd.code fd.closureTuple:=by
 unfold fnX
 rw[←e2,←e3,←e4,←e5]
theorem To{c:Cx}{k:Nat}{a:Addr}{Ah:Bool}{pargs locs:List Str}(h:kc c.K c.self a Ah pargs locs=true)(hfad:c.fad[k]? =some a)
  (hb:∀args:List Value,args.length=((Nz c.K a Ah pargs locs).AI c.self).length→bindArgs (fdOf c.K a) ⟨args,[]⟩=pure (((Nz c.K a Ah pargs locs).AI c.self).zip args)):FnAt c k (Nz c.K a Ah pargs locs) a (fdOf c.K a).code:=by
 have p0:=Ad h
 have p1:=Ad p0.2
 have p2:=Ad p1.2
 have p3:=Ad p2.2
 have p4:=Ad p3.2
 have p5:=Ad p4.2
 have p6:=Ad p5.2
 have p7:=Ad p6.2
 have p8:=Ad p7.2
 have p9:=Ad p8.2
 have p10:=Ad p9.2
 have g4:∀n∈pargs++locs,(fdOf c.K a).scope.names.lookup n=some .local∧(n==("__debug__":Str))=false∧(n==("__classdict__":Str))=false:=fun n hn=>
  have q:=Ad (zR.mp p4.1 n hn)
  have q2:=Ad q.2
  ⟨eq_of_beq q.1,DH q2.1,DH q2.2⟩
 refine{fad:=hfad,at_:=?_,code:=p1.1,keep:=p2.1,isFn:=p3.1,kinds:=fun n hn=>(g4 n hn).1,skind:=fun hm=>?_,nocell:=fun x hx=>?_,co:=DH p7.1,gen:=DH p8.1,kind:=z7 p9.1,nd:=Kg p10.1,self:=fun hm=>?_,dbg:=fun n hn=>(g4 n hn).2}
 ·refine eU (ZY p0.1) fun oc od osl e1 e2 e3 e4 e5=>?_
  have e6:=ZX _ e2 e3 e4 e5
  refine⟨(fdOf c.K a).defaults,(fdOf c.K a).kwdefaults,(fdOf c.K a).doc,(fdOf c.K a).pyModule,(fdOf c.K a).annotations,(fdOf c.K a).closureTuple,oc,od,osl,e1.trans (zB (fun fd=>some (Obj.mk oc od (.func fd) osl)) e6),fun args ha=>(zB (fun fd=>bindArgs fd ⟨args,[]⟩) e6).symm.trans (hb args ha)⟩
 ·have hm:Ah=true:=hm
  have q:=p5.1
  rw[hm]at q
  exact eq_of_beq q
 ·exact fun e=>by
   have q:=DH (zR.mp p6.1 x hx)
   rw[e]at q;exact nomatch q
 ·have q:=DH p10.2
  rw[D9 (show c.self∈pargs++locs from hm)]at q
  exact nomatch q
noncomputable def QW(Pt:Addr):Rec:=⟨[],[],[],[(Pt,tabObj #[])],none⟩
theorem TK{c:Cx}{f:Fx}{h:Heap}{m:Str→Option Value}{ca Pt:Addr}{co:Obj}{wd sn:Str}{rv:Value}{xs:List Val}{n:Nat}
  (hcl:f.cl=[(wd,ca)]) (F:Fr f.h₀ f.L h m) (N:News f.h₀ f.L h [(ca,co),(Pt,tabObj #[])]) (hne:ca≠Pt) (hco:∃v,co.data=.cell v) (hn0:f.names[0]? =some sn) (hs:f.cs.names.lookup sn=some .local) (hm:m sn=some rv) (hv:c.V (QW Pt) (.seq false xs) rv)
  (B:c.B0.StaysIn f.h₀):Rel c f (QW Pt) ⟨start [.seq false xs] n,[],[],[]⟩ h m [(ca,co),(Pt,tabObj #[])] where
 F:=F
 N:=N
 nd:=by simp[hne]
 slots:=fun k nm v hk hv'=>by
  refine Ab (Io hv') fun x hx hq2=>?_;subst hq2
  induction k using zE with
  |zero=>
   rw[hn0]at hk;cases hk
   cases hx
   rw[hs]
   exact⟨rv,hm,.v hv⟩
  |succ k=>simp at hx
 clo:=fun nm a ha=>by
  rw[hcl,jg]at ha
  induction q:nm==wd using za with
  |false=>rw[q]at ha;cases ha
  |true=>
   rw[q]at ha;cases ha
   refine zg hco fun v hv=>?_
   exact⟨co,v,.head _,hv⟩
 self:=fun _ _ h=>nomatch h
 self0:=fun _=>rfl
 ml:=fun a ha=>by
  rcases ha with ha |ha |ha |⟨x,ha⟩
  ·cases ha
  ·cases ha
  ·rw[hcl]at ha
   rw[show a=ca from zI.mp ha];exact .head _
  ·cases ha
 hlen:=rfl
 cells:=fun j fs hj=>by induction j using zE <;>cases hj
 oln:=rfl
 owns:=fun k xs hk=>by induction k using zE <;>cases hk
 zs:=fun _ h=>nomatch h
 ex:=fun p hp=>by rw[zI.mp hp];exact .tail _ (.head _)
 D1:=by rw[hcl];simp[QW]
 D2:=fun _ _ h=>nomatch h
 D3:=fun a ha p hp=>by
  have hp:p∈[(Pt,tabObj #[])]:=hp
  rw[zI.mp hp]
  rcases ha with ha |ha |ha |⟨x,ha⟩
  ·cases ha
  ·cases ha
  ·rw[hcl]at ha
   rw[show a=ca from zI.mp ha];exact hne.symm
  ·cases ha
 D4:=fun _ h=>nomatch h
 B:=B
theorem Zf{M:Model}{Γ:Ctx}{env:Env}{b:List Stmt}{Q:Flow→Pos→Shared→Prop}{E:Value→Pos→Shared→Prop}:∀{a:List Stmt} {p:Pos} {s:Shared},Sem.wp M Γ (execs a env) (fun fl p' s'=>match fl with | .next=>Sem.wp M Γ (execs b env) Q E p' s' |f=>Q f p' s') E p s→Sem.wp M Γ (execs (a++b) env) Q E p s:=by
 intro a
 induction a with
 |nil=>exact fun h=>h
 |cons x a ih=>
  intro p s h
  rw[execs_cons,Sem.wp_bind']at h
  rw[jH,execs_cons,Sem.wp_bind']
  refine Sem.wp_mono M Γ _ (fun f p' s' h'=>?_) (fun _ _ _ h'=>h') _ _ h
  cases f with
  |next=>exact ih h'
  |_=>exact h'
theorem OF{M:Model}{A:Around}{E:Value→Shared→Prop}{env:Env}{Q:Flow→Shared→Prop}{a b:List Stmt}{s:Shared}(h:wpAny M A (execs a env) (fun fl s'=>match fl with | .next=>wpAny M A (execs b env) Q E s' |f=>Q f s') E s):wpAny M A (execs (a++b) env) Q E s:=
 fun Γ p hΓ=>Zf (Sem.wp_mono M Γ _ (fun f p' s' h'=>by
  cases f with
  |next=>exact h' Γ p' hΓ
  |_=>exact h') (fun _ _ _ h'=>h') _ _ (h Γ p hΓ))
theorem Zd{l:LV}{x:Val}(h:val? l=some x):l=.v x:=by
 induction l using LV.casesOn with
 |v y=>rw[ze h]
 |_=>exact nz h
noncomputable def al(C:Cfg)(j i i' kf:Nat)(N:St→Prop)(σ:St):Prop:=B9 (Ax σ.loc j) fun l=>B8 (fun v σ=>match v with
 | .obj t=>(match σ.heap[t]? with
  |some (.flds fs)=>B9 (Ax σ.loc i) fun l=>(match l with
   | .loc k=>B9 (CW σ.own k) fun xs=>B9 (fz σ.own σ.loc) fun loc'=>C.call (2000+kf) fs [.seq false xs] (σ.heap.set t .taken) (fun r fs' h'=>N ⟨Bg (BD loc') i' (.v r),[],[],h'.set t (.flds fs')⟩) (fun _ _ _=>False)
   |_=>False)
  |_=>False)
 |_=>False) l σ
noncomputable def Xh(C:Cfg)(pre post:Ss)(j i i' kf:Nat)(K:Out→St→Prop)(σ:St):Prop:=
 Ay C (fun _ _=>False) pre (fun o σ=>match o with | .next=>al C j i i' kf (fun σ=>Ay C (fun _ _=>False) post K σ) σ |_=>False) σ
noncomputable def am(T:Tb)(L:PH)(j i' kf:Nat)(k:Nat):Stmt:=.Assign [.Name (AH T.names i') (T.p (k+1))] (.Call (.Attribute (.Name (AH T.names j) (T.p (k+4))) (AH T.Dj kf) (T.q (k+3) (k+2))) [.Lambda L.params L.body L.scope (T.p (k+5))] [] (T.p (k+2))) (T.p k)
theorem Xi{c:Cx}{P:Ne}{Ds:List (En×Addr×Value)}{d:Nat}{f:Fx}{A:Around}{T:Tb}{S:Sx}{s:Shared}{m:Str→Option Value}{pre post:Ss}{nloc j i i' kf:Nat}{ca Pt cc:Addr}{co:Obj}{sn:Str}{rv:Value}{xs:List Val}{D:En}{ad:Addr}{cdv:Value}{fn:Fn}
  (ok:EJ c) (HC:A4 c (Dh P (d+1)) (d+1) c.mth) (H:DK c P Ds) (W:Zr c (Dh P (d+1)) (d+1) S T) (hc:Fy T pre 0=true) (hc2:Fy T post (DJ pre+6)=true) (G:Nb c f A (d+1)) (NM:Hs c f) (hN:f.names=S.names) (hS:f.cs=S.cs) (hm0:S.Ah=false)
  (la:PG c f Pt cc ca (T.p (DJ pre+5))) (hD:Ds[kf]? =some (D,ad,cdv)) (hf:P.fns[kf]? =some fn) (hmD:D.Ah=true) (hbd:KM c (Dh P d) d D.body D.qual D.scope ad cdv D.names D.Ah fn.body) (hj:Nat.blt j T.names.length=true) (hi:S.names[i]? =some c.lam.nm) (hi':Nat.blt i' T.names.length=true) (hkf:kf < T.mtn)
  (hne:ca≠Pt) (F:Fr f.h₀ f.L s.heap m) (N:News f.h₀ f.L s.heap [(ca,co),(Pt,tabObj #[])]) (hco:∃v,co.data=.cell v) (hn0:f.names[0]? =some sn) (hs:f.cs.names.lookup sn=some .local) (hm:m sn=some rv) (hv:c.V (QW Pt) (.seq false xs) rv) (B:c.B0.StaysIn f.h₀)
  (hw:Xh (Dh P (d+1)) pre post j i i' kf (DC fun r _ _=>r=.bool true) ⟨start [.seq false xs] nloc,[],[],[]⟩)
  {Ev:Value→Shared→Prop} {Q:Flow→Shared→Prop} (hq:∀s' m' ps,Fr f.h₀ f.L s'.heap m'→Ar s s'→s'.heap.get? Pt=some (tabObj ps)→Q (.ret (.bool true)) s'):wpAny (model c.prog c.w) A (execs (C2 T pre 0++am T c.lam j i' kf (DJ pre)::C2 T post (DJ pre+6)) f.env) Q Ev s:=by
 have r:=TK (n:=nloc) la.cl F N hne hco hn0 hs hm hv B
 have a:At c S (d+1) f A (fun _ _=>False) (QW Pt) ⟨start [.seq false xs] nloc,[],[],[]⟩ s:=⟨G,NM,hN,hS,by rw[hm0];rfl,fun h=>(by rw[hm0]at h;cases h),⟨m,_,r⟩,fun _ _ h=>h⟩
 refine OF (Sj W ok HC pre 0 hc f A _ _ _ s _ a hw Ev _ fun o σ' R' fl s' le sm hk rx hfl=>?_)
 induction o using Out.casesOn with
 |next=>
  rw[hfl.Rl]
  refine wpAny_execs_cons ?_
  have a':=a.up le sm rx
  refine Ab (Ae hk) fun l hl hk=>?_
  refine Ab (Am hk) fun v hvl hk=>?_
  have el:l=.v v:=Zd hvl
  subst el
  refine Ab (dE hk) fun t et hk=>?_
  subst et
  refine Ab (W3 hk) fun fs ND hk=>?_
  refine Ab (Ae hk) fun l hil hk=>?_
  refine Ab (TO hk) fun k ek hk=>?_
  subst ek
  refine Ab (Ae hk) fun ys ho hk=>?_
  refine Ab (Ae hk) fun loc' hfz hk=>?_
  have hmt:=W.O.mt kf hkf
  refine YC (C:=Dh P (d+1)) (C':=Dh P d) H rfl rfl hD hf hmD hbd a' hm0 (fun _ _ h=>h) (Ct W.O hj) hi (Ct W.O hi') (Eo W hi') hmt (B1 ..) la hl ND hil ho hfz (by rw[le.ex];exact .head _) hk (fun _ _ _ h=>h) fun r fs' h' R₂ s₂ ps hk₂ sm₂ a₂ hp=>?_
  refine Sj W ok HC post _ hc2 f A _ R₂ _ s₂ _ a₂ hk₂ Ev Q fun o σ₃ R₃ fl s₃ le₃ sm₃ hk rx hfl=>?_
  refine Aq rx fun m' led' r'=>?_
  have hpt:s₃.heap.get? Pt=some (tabObj ps):=r'.BN (r'.ex _ (by rw[le₃.ex];exact hp))
  have smm:=(sm.trans sm₂).trans sm₃
  have fin:∀{lv:LV} {rv:Value},Qe (fun r _ _=>r=.bool true) lv σ₃→LR c R₃ lv rv→rv=.bool true:=fun{lv rv} hk hl=>by
   refine Ab (Ae hk) fun x hx hk=>?_
   refine Ab (Ae hk) fun fs _ hk=>?_
   subst hk
   induction hl using LR.casesOn with
   |v y=>cases hx;cases y;rfl
   |@loc k2 a2 _=>
    simp only[look]at hx
    induction q:CW σ₃.own k2 using zh with
    |none=>rw[q]at hx;cases hx
    |some _=>rw[q]at hx;cases hx
   |app _ _=>cases hx
   |fn _=>cases hx
  induction hfl using Ix.casesOn with
  |next=>
   refine Ab (Ae hk) fun fs _ hk=>?_
   cases hk
  |brk=>exact hk.elim
  |cont=>exact hk.elim
  |ret hl=>rw[fin hk hl];exact hq s₃ m' ps r'.F smm hpt
 |_=>exact hk.elim
section
noncomputable def eB(s:Str)(t:Txt):Bool:=Bt s.cps.toList t
theorem UJ{s:Str}{t:Txt}(h:eB s t=true):s=⟨t.toArray⟩:=by
 obtain⟨a⟩:=s
 have e:a.toList=t:=KI h
 rw[←e]
noncomputable def onSeq(o:Option Obj)(g:String→List Value→Bool):Bool:=match o with
 |some ⟨.type k,none,.seq vs _,_⟩=>g k vs.toList
 |_=>false
noncomputable def Kk(o:Option Obj)(g:String→List Value→Array (Option Value)→Bool):Bool:=match o with
 |some ⟨.type k,none,.fields vs,sl⟩=>g k vs.toList sl
 |_=>false
noncomputable def Rv(o:Option Obj)(g:Addr→List DictEntry→Bool):Bool:=match o with
 |some ⟨.ref C,_,.dict es _,_⟩=>g C es.toList
 |_=>false
theorem LH{o:Option Obj}{g:String→List Value→Bool}(h:onSeq o g=true):∃k vs n sl,o=some ⟨.type k,none,.seq ⟨vs⟩ n,sl⟩∧g k vs=true:=by
 induction o using zh with
 |none=>exact ft h
 |some o=>
  obtain⟨cls,d,dat,sl⟩:=o
  cases cls with
  |type k=>induction d using zh with
   |none=>cases dat with
    |seq vs n=>exact⟨k,vs.toList,n,sl,rfl,h⟩
    |_=>exact ft h
   |some _=>exact ft h
  |_=>exact ft h
theorem Fz{o:Option Obj}{g:String→List Value→Array (Option Value)→Bool}(h:Kk o g=true):∃k vs sl,o=some ⟨.type k,none,.fields ⟨vs⟩,sl⟩∧g k vs sl=true:=by
 induction o using zh with
 |none=>exact ft h
 |some o=>
  obtain⟨cls,d,dat,sl⟩:=o
  cases cls with
  |type k=>induction d using zh with
   |none=>cases dat with
    |fields vs=>exact⟨k,vs.toList,sl,rfl,h⟩
    |_=>exact ft h
   |some _=>exact ft h
  |_=>exact ft h
theorem O1{o:Option Obj}{g:Addr→List DictEntry→Bool}(h:Rv o g=true):∃C d es n sl,o=some ⟨.ref C,d,.dict es n,sl⟩∧g C es.toList=true:=by
 induction o using zh with
 |none=>exact ft h
 |some o=>
  obtain⟨cls,d,dat,sl⟩:=o
  cases cls with
  |ref C=>cases dat with
   |dict es n=>exact⟨C,d,es,n,sl,rfl,h⟩
   |_=>exact ft h
  |_=>exact ft h
section
variable (K:Frag)
mutual
noncomputable def U8:Val→Value→Bool
 | .none,v=>(match v with | .none=>true |_=>false)
 | .bool a,v=>(match v with | .bool b=>cond a b (!b) |_=>false)
 | .int i,v=>(match v with | .int j _=>IT i j |_=>false)
 | .str t,v=>(match v with | .str s _=>eB s t && Nat.ble t.length Az |_=>false)
 | .seq tup xs,v=>(match v with | .ref a=>onSeq (K.lookup a) fun k vs=>k==kindS tup && (Nat.ble xs.length Az && Ol xs vs) |_=>false)
 |_,_=>false
noncomputable def Ol:List Val→List Value→Bool
 |[],l=>l.isEmpty
 |x::xs,l=>(match l with |v::vs=>U8 x v && Ol xs vs |[]=>false)
end
end
section
variable {PC:Addr}{Z:Addr→Obj→Prop}{ρ:List Addr}{K:Frag}
theorem U9(hZ:∀a o,K.lookup a=some o→Z a o):∀(x:Val) (v:Value),U8 K x v=true→VR PC Z ρ x v:=by
 refine@Val.rec (fun x=>∀v,U8 K x v=true→VR PC Z ρ x v) (fun xs=>∀vs,Ol K xs vs=true→Bv PC Z ρ xs vs) ?_ ?_ ?_ ?_ ?_ ?_ ?_ ?_ ?_
 ·intro v h
  cases v with
  |none=>exact .none
  |_=>exact ft h
 ·intro a v h
  cases v with
  |bool b=>rw[IP h];exact .bool _
  |_=>exact ft h
 ·intro i v h
  cases v with
  |int j t=>rw[Qf h];exact .int _ _
  |_=>exact ft h
 ·intro t v h
  cases v with
  |str s k=>rw[UJ (Ad h).1];exact .str _ _ (Df (Ad h).2)
  |_=>exact ft h
 ·intro tup xs ih v h
  cases v with
  |ref a=>
   refine SN (LH (o:=K.lookup a) (g:=fun k vs=>k==kindS tup && (Nat.ble xs.length Az && Ol K xs vs)) h) fun k vs n sl e h=>?_
   have h:=Ad h
   have h2:=Ad h.2
   exact .seq (vs:=vs) (n:=n) ⟨_,hZ _ _ e,zB Value.type (eq_of_beq h.1),rfl⟩ (Df h2.1) (ih vs h2.2)
  |_=>exact ft h
 ·exact fun _ _ h=>ft h
 ·exact fun _ _ _ h=>ft h
 ·intro vs h
  induction vs using zi with
  |nil=>exact .nil
  |cons _ _=>exact ft h
 ·intro x xs i1 i2 vs h
  induction vs using zi with
  |nil=>exact ft h
  |cons v vs=>exact .cons (i1 v (Ad h).1) (i2 vs (Ad h).2)
end
noncomputable def Rw(o:Option (Option Value))(g:Value→Bool):Bool:=match o with
 |some (some v)=>g v
 |_=>false
theorem O2{o:Option (Option Value)}{g:Value→Bool}(h:Rw o g=true):∃v,o=some (some v)∧g v=true:=by
 induction o using zh with
 |none=>exact ft h
 |some o=>induction o using zh with
  |none=>exact ft h
  |some v=>exact⟨v,rfl,h⟩
noncomputable def kg(K:Frag)(gl:List (Str×Val)):Bool:=gl.all fun p=>Rw (nsIn K mainGlobals p.1) (U8 K p.2)
theorem Z6{c:Cx}(hB:∀a o,c.K.lookup a=some o→c.B0.get? a=some o)(h:kg c.K c.gl=true):Zn c:=by
 intro n v hm
 refine Ab (O2 (zR.mp h (n,v) hm)) fun rv e h=>?_
 exact⟨rv,e,fun R=>U9 (fun a o e=>.inl (hB a o e)) v rv h⟩
noncomputable def fN{α:Type}(o:Option α)(g:α→Bool):Bool:=match o with
 |some v=>g v
 |none=>false
theorem Kl{α:Type}{o:Option α}{g:α→Bool}(h:fN o g=true):∃v,o=some v∧g v=true:=by
 induction o using zh with
 |none=>exact ft h
 |some v=>exact⟨v,rfl,h⟩
noncomputable def i7(K:Frag)(PC:Addr)(n:Str):Bool:=plainGet K PC n && (hasDictIn K PC && (fN (findIn K (.ref PC) n) (noGet K) &&
 ((findIn K (.ref PC) "__setattr__"==some (some (.builtin "object.__setattr__"))) && (plainOver K PC && (takerIn K PC n==some none)))))
theorem Zy{c:Cx}{n:Str}(h:i7 c.K c.PC n=true):PD c n:=by
 have h1:=Ad h
 have h2:=Ad h1.2
 have h3:=Ad h2.2
 have h4:=Ad h3.2
 have h5:=Ad h4.2
 exact⟨h1.1,h2.1,Kl h3.1,eq_of_beq h4.1,h5.1,eq_of_beq h5.2⟩
noncomputable def gF(K:Frag)(PC:Addr)(attrs:List Str)(n:Str)(a:Addr):Bool:=(findIn K (.ref PC) n==some (some (.ref a))) && (isFn K (.ref a) && (keepIn K (.ref a) && (plainGet K PC n && !BF attrs n)))
theorem az{c:Cx}{n:Str}{k:Nat}{a:Addr}(hm:c.mth k=true)(hf:c.fad[k]? =some a)(h:gF c.K c.PC c.attrs n a=true):SX c n k:=by
 have h1:=Ad h
 have h2:=Ad h1.2
 have h3:=Ad h2.2
 have h4:=Ad h3.2
 exact⟨hm,⟨a,hf,eq_of_beq h1.1,h2.1,h3.1⟩,h4.1,fun hn=>by rw[D9 hn]at h4;exact ft h4.2⟩
noncomputable def kK(K:Frag)(pm:Addr):Bool:=Rv (K.lookup pm) fun C es=>(findIn K (.ref C) "__getitem__"==some (some (.builtin "dict.__getitem__"))) && (noSeq K C && ((subIn K (.ref C) (.type "dict")==some true) && (allB TF es && allB (Zc es) (upTo 0 128))))
theorem dP{K:Frag}{pm:Addr}(h:kK K pm=true):Mb K pm:=by
 obtain⟨C,d,es,n,sl,e,h⟩:=O1 h
 have h1:=Ad h
 have h2:=Ad h1.2
 have h3:=Ad h2.2
 have h4:=Ad h3.2
 exact⟨C,d,es,n,sl,e,eq_of_beq h1.1,h2.1,eq_of_beq h3.1,h4.1,h4.2⟩
noncomputable def QM(v:Value)(n:Nat):Bool:=decide (v=rawInt n)
noncomputable def Qg:List Value→List Nat→Bool
 |[],ns=>ns.isEmpty
 |v::r,ns=>(match ns with |n::ns=>QM v n && Qg r ns |[]=>false)
theorem Qh{vs:List Value}:∀{ns:List Nat},Qg vs ns=true→vs=ns.map fun w:Nat=>rawInt w:=by
 induction vs with
 |nil=>
  intro ns h
  induction ns using zi with
  |nil=>rfl
  |cons _ _=>exact ft h
 |cons v r ih=>
  intro ns h
  induction ns using zi with
  |nil=>exact ft h
  |cons n ns=>rw[z7 (Ad h).1,ih (Ad h).2];rfl
noncomputable def ST(l:List Value)(g:Value→List Value→Bool):Bool:=match l with
 |v::r=>g v r
 |[]=>false
theorem CI{l:List Value}{g:Value→List Value→Bool}(h:ST l g=true):∃v r,l=v::r∧g v r=true:=by
 induction l using zi with
 |nil=>exact ft h
 |cons v r=>exact⟨v,r,rfl,h⟩
noncomputable def Yq :Value→Option Addr
 | .ref a=>some a
 |_=>none
theorem MQ{v:Value}{a:Addr}(h:Yq v=some a):v=.ref a:=by
 cases v with
 |ref b=>rw[ze h]
 |_=>exact nz h
noncomputable def NI(v:Value):Bool:=decide (v=.none)
noncomputable def lq(K:Frag)(codes:List Nat)(v:Value):Bool:=fN (Yq v) fun ct=>onSeq (K.lookup ct) fun u ws=>u=="tuple" && Qg ws codes
noncomputable def iu(K:Frag)(codes:List Nat)(l:List Value):Bool:=ST l fun _ l=>ST l fun _ l=>ST l fun a l=>ST l fun b l=>ST l fun c l=>ST l fun ct l=>ST l fun k l=>
 l.isEmpty && (QM a 0 && (NI b && (NI c && (QM k 0 && lq K codes ct))))
noncomputable def XN(K:Frag)(pat:Addr)(codes:List Nat):Bool:=Kk (K.lookup pat) fun t vs _=>t=="re.Pattern" && iu K codes vs
theorem MI{K:Frag}{pat:Addr}{codes:Array Nat}(h:XN K pat codes.toList=true):Rxm.FN K pat codes:=by
 refine DE (Fz h) fun t vs sl e h=>?_
 have h:=Ad h
 refine A6 (CI h.2) fun p _ e1 q=>?_
 refine A6 (CI q) fun fl _ e2 q=>?_
 refine A6 (CI q) fun a _ e3 q=>?_
 refine A6 (CI q) fun b _ e4 q=>?_
 refine A6 (CI q) fun c _ e5 q=>?_
 refine A6 (CI q) fun ct _ e6 q=>?_
 refine A6 (CI q) fun k r e7 q=>?_
 have q1:=Ad q
 have q2:=Ad q1.2
 have q3:=Ad q2.2
 have q4:=Ad q3.2
 have q5:=Ad q4.2
 refine Ab (Kl q5.2) fun ad e8 q6=>?_
 refine SN (LH q6) fun u ws n sl2 e9 q6=>?_
 have q6:=Ad q6
 refine⟨p,fl,ad,sl,sl2,n,?_,?_⟩
 ·rw[e,eq_of_beq h.1,e1,e2,e3,e4,e5,e6,e7,Ji.mp q1.1,z7 q2.1,z7 q3.1,z7 q4.1,z7 q5.1,MQ e8]
  rfl
 ·rw[e9,eq_of_beq q6.1,Qh q6.2]
  exact zB (fun a=>some (⟨.type "tuple",none,.seq a n,sl2⟩:Obj)) (Array.toList_inj.mp Array.toList_map.symm)
noncomputable def i8(K:Frag)(id:String)(codes:List Nat)(l:List Value):Bool:=ST l fun a l=>ST l fun b l=>l.isEmpty && (decide (a=.builtin id) && fN (Yq b) fun pat=>XN K pat codes)
noncomputable def fP(K:Frag)(q:Addr)(codes:List Nat):Bool:=Kk (K.lookup q) fun t vs sl=>t=="builtin_function_or_method" && (sl.toList.isEmpty && i8 K "re.Pattern.match" codes vs)
theorem RS{K:Frag}{q:Addr}{codes:Array Nat}(h:fP K q codes.toList=true):Rxm.Ht K q codes:=by
 refine DE (Fz h) fun t vs sl e h=>?_
 have h1:=Ad h
 have h2:=Ad h1.2
 refine A6 (CI h2.2) fun a _ e1 q=>?_
 refine A6 (CI q) fun b _ e2 q=>?_
 have q1:=Ad q
 have q2:=Ad q1.2
 refine Ab (Kl q2.2) fun pat e3 q3=>?_
 refine⟨pat,?_,MI q3⟩
 obtain⟨sl⟩:=sl
 rw[e,eq_of_beq h1.1,e1,e2,Ji.mp q1.1,z7 q2.1,MQ e3,show sl=[]from Ji.mp h2.1]
noncomputable def kO(K:Frag)(q:Addr):Bool:=Kk (K.lookup q) fun t vs sl=>t=="builtin_function_or_method" && (sl.toList.isEmpty && i8 K "re.Pattern.search" Rxm.BL.toList vs)
theorem eA{K:Frag}{q:Addr}(h:kO K q=true):Rxm.Oq K q:=by
 refine DE (Fz h) fun t vs sl e h=>?_
 have h1:=Ad h
 have h2:=Ad h1.2
 refine A6 (CI h2.2) fun a _ e1 q=>?_
 refine A6 (CI q) fun b _ e2 q=>?_
 have q1:=Ad q
 have q2:=Ad q1.2
 refine Ab (Kl q2.2) fun pat e3 q3=>?_
 refine⟨pat,?_,MI q3⟩
 obtain⟨sl⟩:=sl
 rw[e,eq_of_beq h1.1,e1,e2,Ji.mp q1.1,z7 q2.1,MQ e3,show sl=[]from Ji.mp h2.1]
noncomputable def fc(K:Frag)(n:Str)(a:Addr):Bool:=(nsIn K mainGlobals n==some (some (.ref a))) && keepIn K (.ref a)
noncomputable def ki(K:Frag)(PC fI:Addr)(cls:Str)(junk Em chew strre bs tr:Addr):Bool:=
 (["len","sum","tuple","range","isinstance","int"]:List Str).all (fun n=>nsIn K mainGlobals n==some none) &&
 ((nsIn K mainGlobals "_junkre"==some (some (.ref junk))) && (fP K junk Rxm.Cd.toList && ((nsIn K mainGlobals "_synchre"==some (some (.ref Em))) && (kO K Em &&
 ((nsIn K mainGlobals "_chew_ordinaryre"==some (some (.ref chew))) && (fP K chew Rxm.EQ.toList &&
 ((nsIn K mainGlobals "_match_stringre"==some (some (.ref strre))) && (fP K strre Rxm.AJ.toList && ((nsIn K mainGlobals "_twin_re_7"==some (some (.ref bs))) && (XN K bs Rxm.ZH.toList &&
 ((nsIn K mainGlobals "trans"==some (some (.ref tr))) && (kK K tr && ((nsIn K mainGlobals cls==some (some (.ref PC))) && (keepIn K (.ref PC) && (makesIn K PC &&
 ((findIn K (.ref PC) "__init__"==some (some (.ref fI))) && isFn K (.ref fI)))))))))))))))))
theorem aj{c:Cx}{Dj:List Str}{mtn:Nat}{cls:Str}{fI junk Em chew strre bs tr:Addr}(h:ki c.K c.PC fI cls junk Em chew strre bs tr=true)
  (hf:∀k,mtn≤k→k < Dj.length→c.mth k=false∧∃a,c.fad[k]? =some a∧fc c.K (AH Dj k) a=true) (hm:∀k,k < mtn→SX c (AH Dj k) k):KF c Dj mtn cls fI:=by
 have q0:=Ad h
 have q1:=Ad q0.2
 have q2:=Ad q1.2
 have q3:=Ad q2.2
 have q4:=Ad q3.2
 have q7:=Ad q4.2
 have q8:=Ad q7.2
 have q9:=Ad q8.2
 have q10:=Ad q9.2
 have q11:=Ad q10.2
 have q12:=Ad q11.2
 have q13:=Ad q12.2
 have q14:=Ad q13.2
 have q15:=Ad q14.2
 have q16:=Ad q15.2
 have q17:=Ad q16.2
 have q18:=Ad q17.2
 refine{bi:=fun n hn=>eq_of_beq (zR.mp q0.1 n hn),junk:=⟨junk,eq_of_beq q1.1,RS q2.1⟩,Em:=⟨Em,eq_of_beq q3.1,eA q4.1⟩,chew:=⟨chew,eq_of_beq q7.1,RS q8.1⟩,strre:=⟨strre,eq_of_beq q9.1,RS q10.1⟩,bs:=⟨bs,eq_of_beq q11.1,MI q12.1⟩,tr:=⟨tr,eq_of_beq q13.1,dP q14.1⟩,fn:=fun k l1 l2=>?_,mt:=hm,cl:=⟨eq_of_beq q15.1,q16.1,q17.1,eq_of_beq q18.1,q18.2⟩}
 obtain⟨w1,a,w2,w3⟩:=hf k l1 l2
 have w3:=Ad w3
 exact⟨w1,a,w2,eq_of_beq w3.1,w3.2⟩
end
section
section
variable {fd:FuncData}{ns:List Str}
theorem ll(hl:ns.length=0)(h:bindArgs fd ⟨[],[]⟩=pure (ns.zip [])):∀args:List Value,args.length=ns.length→bindArgs fd ⟨args,[]⟩=pure (ns.zip args)
 |[],_=>h
 |_::_,e=>by rw[hl]at e;cases e
theorem ZD(hl:ns.length=1)(h:∀a,bindArgs fd ⟨[a],[]⟩=pure (ns.zip [a])):∀args:List Value,args.length=ns.length→bindArgs fd ⟨args,[]⟩=pure (ns.zip args)
 |[a],_=>h a
 |[],e=>by rw[hl]at e;cases e
 |_::_::_,e=>by rw[hl]at e;simp at e
theorem fb(hl:ns.length=2)(h:∀a b,bindArgs fd ⟨[a,b],[]⟩=pure (ns.zip [a,b])):∀args:List Value,args.length=ns.length→bindArgs fd ⟨args,[]⟩=pure (ns.zip args)
 |[a,b],_=>h a b
 |[],e=>by rw[hl]at e;cases e
 |[_],e=>by rw[hl]at e;simp at e
 |_::_::_::_,e=>by rw[hl]at e;simp at e
theorem lm(hl:ns.length=3)(h:∀a b c,bindArgs fd ⟨[a,b,c],[]⟩=pure (ns.zip [a,b,c])):∀args:List Value,args.length=ns.length→bindArgs fd ⟨args,[]⟩=pure (ns.zip args)
 |[a,b,c],_=>h a b c
 |[],e=>by rw[hl]at e;cases e
 |[_],e=>by rw[hl]at e;simp at e
 |[_,_],e=>by rw[hl]at e;simp at e
 |_::_::_::_::_,e=>by rw[hl]at e;simp at e
end
structure Ent where
 ad:Addr
 Ah:Bool
 pargs:List Str
 locs:List Str
 gls:List Str
 ps:Nat
noncomputable def Ent.D(K:Frag)(e:Ent):En:=Nz K e.ad e.Ah e.pargs e.locs
noncomputable def K7(K:Frag)(Eb:List Ent):List (En×Addr×Value):=Eb.map fun e=>(e.D K,e.ad,(fdOf K e.ad).code)
structure Tx where
 attrs:List Str
 self:Str
 gl:List (Str×Val)
 Dj:List Str
 mtn:Nat
 cls:Str
section
variable (t:Tx)
noncomputable def Ent.T(e:Ent):Tb:=⟨e.pargs++e.locs,t.attrs,t.self,e.Ah,[],e.gls,t.gl,t.Dj,t.mtn,t.cls,"",⟨.function,[],false,false,[]⟩,e.ps⟩
variable (K:Frag)
noncomputable def ZP(e:Ent)(fn:Fn):Bool:=
 kc K t.self e.ad e.Ah e.pargs e.locs && (Nat.beq fn.ar e.pargs.length && (aE (fdOf K e.ad).scope t.self e.Ah (e.pargs++e.locs) [] e.gls && (Fy (e.T t) fn.body 0)))
noncomputable def K9:List Ent→List Fn→Bool
 |[],l=>l.isEmpty
 |e::es,l=>(match l with |[]=>false |f::fs=>ZP t K e f && K9 es fs)
noncomputable def Tc:List Ent→List Fn→List (List Stmt)
 |[],_=>[]
 |e::es,l=>(match l with |[]=>[] |f::fs=>C2 (e.T t) f.body 0::Tc es fs)
noncomputable def U6:List Ent→List (List Stmt)
 |[]=>[]
 |e::es=>Ff (fdOf K e.ad)::U6 es
end
section
variable {K:Frag}{t:Tx}
theorem EV:∀{es:List Ent} {fs:List Fn} {k:Nat} {e:Ent},K9 t K es fs=true→Tc t es fs=U6 K es→es[k]? =some e→∃f,fs[k]? =some f∧ZP t K e f=true∧C2 (e.T t) f.body 0=Ff (fdOf K e.ad)
 |[],_,_,_,_,_,h=>by rw[Jq]at h;exact nz h
 |_::_,[],_,_,h,_,_=>ft h
 |e::es,f::fs,0,_,h,g,h1=>by
  have h1:=ze h1
  subst h1
  exact⟨f,rfl,(Ad h).1,(z9 g).1⟩
 |e::es,f::fs,k+1,_,h,g,h1=>EV (k:=k) (Ad h).2 (z9 g).2 h1
theorem Lb:∀{es:List Ent} {fs:List Fn},K9 t K es fs=true→fs.length=es.length
 |[],[],_=>rfl
 |[],_::_,h=>ft h
 |_::_,[],h=>ft h
 |_::_,_::_,h=>zB (· +1) (Lb (Ad h).2)
end
section
variable {c:Cx}{P:Ne}{Eb:List Ent}{Dj:List Str}{mtn:Nat}{cls:Str}{fI:Addr}
structure GD(c:Cx)(P:Ne)(Eb:List Ent)(Dj:List Str)(mtn:Nat)(cls:Str)(fI:Addr):Prop where
 ok:EJ c
 L:KN c
 F:KF c Dj mtn cls fI
 mth:c.mth=H8 (K7 c.K Eb)
 fad:c.fad=Eb.map (·.ad)
 few:Eb.length≤1000
 B:K9 ⟨c.attrs,c.self,c.gl,Dj,mtn,cls⟩ c.K Eb P.fns=true
 E:Tc ⟨c.attrs,c.self,c.gl,Dj,mtn,cls⟩ Eb P.fns=U6 c.K Eb
 b:∀(k:Nat) (e:Ent),Eb[k]? =some e→∀args:List Value,args.length=((e.D c.K).AI c.self).length→bindArgs (fdOf c.K e.ad) ⟨args,[]⟩=pure (((e.D c.K).AI c.self).zip args)
 rx:P.rx=Rxm.CR
 nf:P.nf=c.attrs.length
 I:c.fad[P.init]? =some fI
 Im:c.mth P.init=true
theorem Mn{K:Frag}{k:Nat}{D:En}{a:Addr}{cdv:Value}(h:(K7 K Eb)[k]? =some (D,a,cdv)):∃e,Eb[k]? =some e∧D=e.D K∧a=e.ad∧cdv=(fdOf K e.ad).code:=by
 unfold K7 at h
 rw[Je]at h
 induction q:Eb[k]? using zh with
 |none=>rw[q]at h;exact nz h
 |some e=>rw[q]at h;cases h;exact⟨e,rfl,rfl,rfl,rfl⟩
theorem GD.are(O:GD c P Eb Dj mtn cls fI):DK c P (K7 c.K Eb):=by
 have hl:(K7 c.K Eb).length=Eb.length:=z3 ..
 refine{hlen:=(Lb O.B).trans hl.symm,hfad:=by rw[O.fad,z3,hl],hfn:=fun k D a cdv h=>?_,har:=fun k D a cdv fn h hf=>?_,few:=hl▸O.few}
 ·refine L8 (Mn h) fun e h1 hq2 hq3 hq4=>?_;subst hq2;subst hq3;subst hq4
  refine BM (EV O.B O.E h1) fun f h2 h3 _=>?_
  exact To (Ad h3).1 (by rw[O.fad,Je,h1];rfl) (O.b k e h1)
 ·refine L8 (Mn h) fun e h1 hq2 hq3 hq4=>?_;subst hq2;subst hq3;subst hq4
  refine BM (EV O.B O.E h1) fun f h2 h3 _=>?_
  rw[hf]at h2;rw[ze h2]
  exact zD (Ad (Ad h3).2).1
theorem GD.P5(O:GD c P Eb Dj mtn cls fI){d:Nat}(HC:A4 c (Dh P d) d c.mth){k:Nat}{D:En}{a:Addr}{cdv:Value}{fn:Fn}(h:(K7 c.K Eb)[k]? =some (D,a,cdv))(hf:P.fns[k]? =some fn):KM c (Dh P d) d D.body D.qual D.scope a cdv D.names D.Ah fn.body:=by
 refine L8 (Mn h) fun e h1 hq2 hq3 hq4=>?_;subst hq2;subst hq3;subst hq4
 refine BM (EV O.B O.E h1) fun f h2 h3 h4=>?_
 have e2:=ze (hf.symm.trans h2);subst e2
 have h5:=Ad (Ad (Ad h3).2).2
 exact ZE O.ok HC (V7 (S:=⟨(e.D c.K).names,(e.D c.K).scope,(e.D c.K).Ah⟩) (cells:=[]) (gls:=e.gls) O.F O.rx O.nf O.I O.Im O.L HC h5.1) h5.2 h4
theorem GD.calls(O:GD c P Eb Dj mtn cls fI)(d:Nat):A4 c (Dh P d) d c.mth:=
 Oy O.ok O.are O.mth (fun _ HC _ _ _ _ _ h hf=>O.P5 HC h hf) d
end
end
end Ak
end
namespace Ak.L04
noncomputable def E3:Val:=.seq false [.seq false [.seq true [.str [119,104,105,108,101,32,97,58,10],.bool false]],.seq false [.seq true [.str [32,32,32,32,98,32,61,32,99,10],.bool false]],.seq false [.seq true [.str [100,101,102,32,102,40,97,44,10,32,32,32,32,32,32,98,41,58,10],.bool false]],.seq false [.seq true [.str [32,32,32,32,114,101,116,117,114,110,32],.bool false],.seq true [.str [39,39,39,10,101,108,115,101,58,10,39,39,39],.bool true],.seq true [.str [10],.bool false]],.seq false [.seq true [.str [35,120,32,61,32,121,10],.bool false]],.seq false [.seq true [.str [99,108,97,115,115,32,67,58,10],.bool false]],.seq false [.seq true [.str [120,32,61,32],.bool false],.seq true [.str [34,34,34,100,101,102,32,103,40,41,58,10,34,34,34],.bool true],.seq true [.str [10],.bool false]],.seq false [.seq true [.str [10],.bool false]],.seq false [.seq true [.str [116,114,121,58,10],.bool false]],.seq false [.seq true [.str [121,32,61,32,97,32,92,10,32,32,43,32,98,10],.bool false]],.seq false [.seq true [.str [9,121,105,101,108,100,32,97,10],.bool false]],.seq false [.seq true [.str [115,32,61,32],.bool false],.seq true [.str [39,39,39,10,32,32,114,97,105,115,101,32,98,10,9,116,114,121,58,10,39,39,39],.bool true],.seq true [.str [10],.bool false]]]
noncomputable def aw:Fn:=⟨2,0,.cons (.sasg 0 (.loc 0)) (.cons (.sasg 1 (.loc 1)) .nil)⟩
noncomputable def MB:Fn:=⟨1,0,.cons (.asrt (.bl false (.cons (.p2 .eq (.p1 .len (.loc 0)) (.lit (.int (.ofNat 0)))) (.cons (.p2 .eq (.p2 .idx (.loc 0) (.p1 .neg (.lit (.int (.ofNat 1))))) (.lit (.str [10]))) .nil)))) (.cons (.sasg 2 (.loc 0)) (.cons (.sasg 3 (.lit (.int (.ofNat 0)))) .nil))⟩
noncomputable def F5:E:=.p2 .lt (.loc 6) (.loc 7)
noncomputable def F3:Ss:=.cons (.asg 8 (.p2 .idx (.loc 0) (.loc 6))) (.cons (.asg 6 (.p2 .add (.loc 6) (.lit (.int (.ofNat 1))))) (.cons (.if_ (.p2 .eq (.loc 8) (.lit (.str [120]))) (.cons (.cont) .nil) (.nil)) (.cons (.if_ (.p2 .eq (.p3 .slc (.loc 0) (.p2 .sub (.loc 6) (.lit (.int (.ofNat 1)))) (.p2 .add (.loc 6) (.loc 11))) (.loc 9)) (.cons (.asg 6 (.p2 .add (.loc 6) (.loc 11))) (.cons (.brk) .nil)) (.nil)) (.cons (.if_ (.p2 .eq (.loc 8) (.lit (.str [10]))) (.cons (.asg 3 (.p2 .add (.loc 3) (.lit (.int (.ofNat 1))))) (.cons (.if_ (.p2 .eq (.loc 11) (.lit (.int (.ofNat 0)))) (.cons (.if_ (.p2 .eq (.loc 2) (.lit (.int (.ofNat 0)))) (.cons (.ex (.push 5 (.loc 3))) .nil) (.nil)) (.cons (.brk) .nil)) (.nil)) (.cons (.cont) .nil))) (.nil)) (.cons (.if_ (.p2 .eq (.loc 8) (.lit (.str [92]))) (.cons (.asrt (.p2 .lt (.loc 6) (.loc 7))) (.cons (.if_ (.p2 .eq (.p2 .idx (.loc 0) (.loc 6)) (.lit (.str [10]))) (.cons (.asg 3 (.p2 .add (.loc 3) (.lit (.int (.ofNat 1))))) .nil) (.nil)) (.cons (.asg 6 (.p2 .add (.loc 6) (.lit (.int (.ofNat 1))))) (.cons (.cont) .nil)))) (.nil)) .nil)))))
noncomputable def F4:Ss:=.cons (.if_ (.p2 .eq (.p2 .sub (.loc 3) (.lit (.int (.ofNat 1)))) (.loc 10)) (.cons (.asg 1 (.glob 2 (.int (.ofNat 2)))) .nil) (.cons (.asg 1 (.glob 3 (.int (.ofNat 3)))) .nil)) .nil
noncomputable def F8:E:=.p2 .lt (.loc 6) (.loc 7)
noncomputable def F6:Ss:=.cons (.asg 8 (.p2 .idx (.loc 0) (.loc 6))) (.cons (.asg 6 (.p2 .add (.loc 6) (.lit (.int (.ofNat 1))))) (.cons (.if_ (.p2 .eq (.loc 8) (.lit (.str [120]))) (.cons (.cont) .nil) (.nil)) (.cons (.if_ (.p2 .eq (.loc 8) (.lit (.str [10]))) (.cons (.asg 3 (.p2 .add (.loc 3) (.lit (.int (.ofNat 1))))) (.cons (.if_ (.p2 .eq (.loc 2) (.lit (.int (.ofNat 0)))) (.cons (.ex (.push 5 (.loc 3))) .nil) (.nil)) (.cons (.cont) .nil))) (.nil)) (.cons (.if_ (.p2 .eq (.loc 8) (.lit (.str [40]))) (.cons (.asg 2 (.p2 .add (.loc 2) (.lit (.int (.ofNat 1))))) (.cons (.cont) .nil)) (.nil)) (.cons (.if_ (.p2 .eq (.loc 8) (.lit (.str [41]))) (.cons (.if_ (.loc 2) (.cons (.asg 2 (.p2 .sub (.loc 2) (.lit (.int (.ofNat 1))))) .nil) (.nil)) (.cons (.cont) .nil)) (.nil)) (.cons (.if_ (.bl false (.cons (.p2 .eq (.loc 8) (.lit (.str [34]))) (.cons (.p2 .eq (.loc 8) (.lit (.str [39]))) .nil))) (.cons (.asg 9 (.loc 8)) (.cons (.if_ (.p2 .eq (.p3 .slc (.loc 0) (.p2 .sub (.loc 6) (.lit (.int (.ofNat 1)))) (.p2 .add (.loc 6) (.lit (.int (.ofNat 2))))) (.p2 .mul (.loc 9) (.lit (.int (.ofNat 3))))) (.cons (.asg 9 (.p2 .mul (.loc 9) (.lit (.int (.ofNat 3))))) .nil) (.nil)) (.cons (.asg 10 (.loc 3)) (.cons (.asg 11 (.p2 .sub (.p1 .len (.loc 9)) (.lit (.int (.ofNat 1))))) (.cons (.asg 6 (.p2 .add (.loc 6) (.loc 11))) (.cons (.while_ F5 F3 F4) (.cons (.cont) .nil))))))) (.nil)) (.cons (.if_ (.p2 .eq (.loc 8) (.lit (.str [35]))) (.cons (.asg 6 (.m3 .find (.loc 0) (.lit (.str [10])) (.loc 6))) (.cons (.asrt (.p2 .ge (.loc 6) (.lit (.int (.ofNat 0))))) (.cons (.cont) .nil))) (.nil)) (.cons (.asrt (.p2 .eq (.loc 8) (.lit (.str [92])))) (.cons (.asrt (.p2 .lt (.loc 6) (.loc 7))) (.cons (.if_ (.p2 .eq (.p2 .idx (.loc 0) (.loc 6)) (.lit (.str [10]))) (.cons (.asg 3 (.p2 .add (.loc 3) (.lit (.int (.ofNat 1))))) (.cons (.if_ (.p2 .eq (.p2 .add (.loc 6) (.lit (.int (.ofNat 1)))) (.loc 7)) (.cons (.asg 1 (.glob 1 (.int (.ofNat 1)))) .nil) (.nil)) .nil)) (.nil)) (.cons (.asg 6 (.p2 .add (.loc 6) (.lit (.int (.ofNat 1))))) .nil)))))))))))
noncomputable def F7:Ss:=.nil
noncomputable def Q8:Fn:=⟨0,12,.cons (.if_ (.p2 .ge (.sat 3) (.lit (.int (.ofNat 1)))) (.cons (.ret (.lit .none)) .nil) (.nil)) (.cons (.sasg 3 (.lit (.int (.ofNat 1)))) (.cons (.asg 0 (.sat 2)) (.cons (.asg 0 (.p1 .squeeze (.loc 0))) (.cons (.asg 0 (.m3 .replace (.loc 0) (.lit (.str [120,120,120,120,120,120,120,120])) (.lit (.str [120])))) (.cons (.asg 0 (.m3 .replace (.loc 0) (.lit (.str [120,120,120,120])) (.lit (.str [120])))) (.cons (.asg 0 (.m3 .replace (.loc 0) (.lit (.str [120,120])) (.lit (.str [120])))) (.cons (.asg 0 (.m3 .replace (.loc 0) (.lit (.str [120,120])) (.lit (.str [120])))) (.cons (.asg 0 (.m3 .replace (.loc 0) (.lit (.str [10,120])) (.lit (.str [10])))) (.cons (.asg 1 (.glob 0 (.int (.ofNat 0)))) (.cons (.asgs [.loc 2,.loc 3] (.lit (.int (.ofNat 0)))) (.cons (.asgs [.sat 4,.loc 4] (.nlst (.cons (.lit (.int (.ofNat 0))) .nil))) (.cons (.asg 5 (.app (.loc 4))) (.cons (.unr [.loc 6,.loc 7] (.seq true (.cons (.lit (.int (.ofNat 0))) (.cons (.p1 .len (.loc 0)) .nil)))) (.cons (.while_ F8 F6 F7) (.cons (.if_ (.bl true (.cons (.p2 .ne (.loc 1) (.glob 2 (.int (.ofNat 2)))) (.cons (.p2 .ne (.loc 1) (.glob 3 (.int (.ofNat 3)))) (.cons (.p2 .gt (.loc 2) (.lit (.int (.ofNat 0)))) .nil)))) (.cons (.asg 1 (.glob 4 (.int (.ofNat 4)))) .nil) (.nil)) (.cons (.sasg 5 (.loc 1)) (.cons (.asrt (.p2 .eq (.p2 .eq (.loc 1) (.glob 0 (.int (.ofNat 0)))) (.p2 .eq (.p2 .idx (.loc 4) (.p1 .neg (.lit (.int (.ofNat 1))))) (.loc 3)))) (.cons (.if_ (.p2 .ne (.p2 .idx (.loc 4) (.p1 .neg (.lit (.int (.ofNat 1))))) (.loc 3)) (.cons (.ex (.push 5 (.loc 3))) .nil) (.nil)) .nil))))))))))))))))))⟩
noncomputable def AY:E:=.wal 6 (.p2 .syn2 (.loc 4) (.loc 3))
noncomputable def AW:Ss:=.cons (.unp [.loc 7,.loc 3] (.p1 .mspan (.loc 6))) (.cons (.if_ (.not_ (.icall 0 (.loc 7))) (.cons (.asg 5 (.loc 7)) .nil) (.nil)) .nil)
noncomputable def AX:Ss:=.nil
noncomputable def AV:Ss:=.cons (.asg 3 (.p4 .rfind (.loc 4) (.lit (.str [58,10])) (.lit (.int (.ofNat 0))) (.loc 1))) (.cons (.if_ (.p2 .lt (.loc 3) (.lit (.int (.ofNat 0)))) (.cons (.brk) .nil) (.nil)) (.cons (.asg 3 (.p2 .add (.p4 .rfind (.loc 4) (.lit (.str [10])) (.lit (.int (.ofNat 0))) (.loc 3)) (.lit (.int (.ofNat 1))))) (.cons (.asg 6 (.p3 .syn3 (.loc 4) (.loc 3) (.loc 1))) (.cons (.if_ (.bl true (.cons (.loc 6) (.cons (.not_ (.icall 0 (.p1 .mstart (.loc 6)))) .nil))) (.cons (.asg 5 (.p1 .mstart (.loc 6))) (.cons (.brk) .nil)) (.nil)) (.cons (.asg 1 (.loc 3)) .nil)))))
noncomputable def BW:Fn:=⟨1,7,.cons (.unr [.loc 4,.loc 5] (.seq true (.cons (.sat 2) (.cons (.lit .none) .nil)))) (.cons (.asg 1 (.p1 .len (.loc 4))) (.cons (.for_ [.loc 2] (.range1 (.lit (.int (.ofNat 5)))) AV) (.cons (.if_ (.p1 .isnone (.loc 5)) (.cons (.asg 6 (.p1 .syn1 (.loc 4))) (.cons (.if_ (.bl true (.cons (.loc 6) (.cons (.not_ (.icall 0 (.p1 .mstart (.loc 6)))) .nil))) (.cons (.asg 5 (.p1 .mstart (.loc 6))) .nil) (.nil)) (.cons (.ret (.loc 5)) .nil))) (.nil)) (.cons (.asg 3 (.p2 .add (.loc 5) (.lit (.int (.ofNat 1))))) (.cons (.while_ AY AW AX) (.cons (.ret (.loc 5)) .nil))))))⟩
noncomputable def Gc:E:=.bl true (.cons (.p2 .ge (.loc 0) (.loc 1)) (.cons (.p2 .isin (.p2 .idx (.loc 6) (.loc 0)) (.lit (.str [32,9,10]))) .nil))
noncomputable def Ga:Ss:=.cons (.asg 0 (.p2 .sub (.loc 0) (.lit (.int (.ofNat 1))))) .nil
noncomputable def Gb:Ss:=.nil
noncomputable def Gg:E:=.p2 .lt (.loc 1) (.loc 8)
noncomputable def Ge:Ss:=.cons (.asg 10 (.p3 .chew (.loc 6) (.loc 1) (.loc 8))) (.cons (.if_ (.loc 10) (.cons (.asg 12 (.p1 .mend (.loc 10))) (.cons (.asg 0 (.p2 .sub (.loc 12) (.lit (.int (.ofNat 1))))) (.cons (.while_ Gc Ga Gb) (.cons (.if_ (.p2 .ge (.loc 0) (.loc 1)) (.cons (.asg 2 (.p2 .idx (.loc 6) (.loc 0))) .nil) (.nil)) (.cons (.asg 1 (.loc 12)) (.cons (.if_ (.p2 .ge (.loc 1) (.loc 8)) (.cons (.brk) .nil) (.nil)) .nil)))))) (.nil)) (.cons (.asg 11 (.p2 .idx (.loc 6) (.loc 1))) (.cons (.if_ (.p2 .isin (.loc 11) (.lit (.str [40,91,123]))) (.cons (.ex (.push 4 (.loc 1))) (.cons (.ex (.apnd 5 (.seq true (.cons (.loc 1) (.cons (.p1 .len (.loc 3)) .nil))))) (.cons (.asg 2 (.loc 11)) (.cons (.asg 1 (.p2 .add (.loc 1) (.lit (.int (.ofNat 1))))) (.cons (.cont) .nil))))) (.nil)) (.cons (.if_ (.p2 .isin (.loc 11) (.lit (.str [41,93,125]))) (.cons (.if_ (.loc 3) (.cons (.dell 3) .nil) (.nil)) (.cons (.asg 2 (.loc 11)) (.cons (.asg 1 (.p2 .add (.loc 1) (.lit (.int (.ofNat 1))))) (.cons (.ex (.apnd 5 (.seq true (.cons (.loc 1) (.cons (.p1 .len (.loc 3)) .nil))))) (.cons (.cont) .nil))))) (.nil)) (.cons (.if_ (.bl false (.cons (.p2 .eq (.loc 11) (.lit (.str [34]))) (.cons (.p2 .eq (.loc 11) (.lit (.str [39]))) .nil))) (.cons (.ex (.apnd 5 (.seq true (.cons (.loc 1) (.cons (.p2 .add (.p1 .len (.loc 3)) (.lit (.int (.ofNat 1)))) .nil))))) (.cons (.asg 2 (.loc 11)) (.cons (.asg 1 (.p1 .mend (.p3 .strre (.loc 6) (.loc 1) (.loc 8)))) (.cons (.ex (.apnd 5 (.seq true (.cons (.loc 1) (.cons (.p1 .len (.loc 3)) .nil))))) (.cons (.cont) .nil))))) (.nil)) (.cons (.if_ (.p2 .eq (.loc 11) (.lit (.str [35]))) (.cons (.ex (.apnd 5 (.seq true (.cons (.loc 1) (.cons (.p2 .add (.p1 .len (.loc 3)) (.lit (.int (.ofNat 1)))) .nil))))) (.cons (.asg 1 (.p2 .add (.p4 .find (.loc 6) (.lit (.str [10])) (.loc 1) (.loc 8)) (.lit (.int (.ofNat 1))))) (.cons (.asrt (.p2 .gt (.loc 1) (.lit (.int (.ofNat 0))))) (.cons (.ex (.apnd 5 (.seq true (.cons (.loc 1) (.cons (.p1 .len (.loc 3)) .nil))))) (.cons (.cont) .nil))))) (.nil)) (.cons (.asrt (.p2 .eq (.loc 11) (.lit (.str [92])))) (.cons (.asg 1 (.p2 .add (.loc 1) (.lit (.int (.ofNat 1))))) (.cons (.asrt (.p2 .lt (.loc 1) (.loc 8))) (.cons (.if_ (.p2 .ne (.p2 .idx (.loc 6) (.loc 1)) (.lit (.str [10]))) (.cons (.asg 2 (.p2 .add (.loc 11) (.p2 .idx (.loc 6) (.loc 1)))) .nil) (.nil)) (.cons (.asg 1 (.p2 .add (.loc 1) (.lit (.int (.ofNat 1))))) .nil)))))))))))
noncomputable def Gf:Ss:=.nil
noncomputable def F9:Ss:=.cons (.asg 1 (.p2 .add (.p4 .rfind (.loc 6) (.lit (.str [10])) (.lit (.int (.ofNat 0))) (.p2 .sub (.loc 1) (.lit (.int (.ofNat 1))))) (.lit (.int (.ofNat 1))))) .nil
noncomputable def Gj:E:=.loc 0
noncomputable def Gh:Ss:=.cons (.asrt (.loc 1)) (.cons (.asg 8 (.loc 1)) (.cons (.for_ [.loc 9] (.range (.p2 .idx (.loc 7) (.p2 .sub (.loc 0) (.lit (.int (.ofNat 1))))) (.p2 .idx (.loc 7) (.loc 0))) F9) (.cons (.if_ (.p2 .junk (.loc 6) (.loc 1)) (.cons (.asg 0 (.p2 .sub (.loc 0) (.lit (.int (.ofNat 1))))) .nil) (.cons (.brk) .nil)) .nil)))
noncomputable def Gi:Ss:=.nil
noncomputable def Q9:Fn:=⟨0,13,.cons (.if_ (.p2 .ge (.sat 3) (.lit (.int (.ofNat 2)))) (.cons (.ret (.lit .none)) .nil) (.nil)) (.cons (.ex (.scall 2 (.nil))) (.cons (.sasg 3 (.lit (.int (.ofNat 2)))) (.cons (.unr [.loc 6,.loc 7] (.seq true (.cons (.sat 2) (.cons (.sat 4) .nil)))) (.cons (.asg 0 (.p2 .sub (.p1 .len (.loc 7)) (.lit (.int (.ofNat 1))))) (.cons (.asg 1 (.p1 .len (.loc 6))) (.cons (.while_ Gj Gh Gi) (.cons (.if_ (.p2 .eq (.loc 0) (.lit (.int (.ofNat 0)))) (.cons (.asrt (.p2 .eq (.loc 1) (.lit (.int (.ofNat 0))))) (.cons (.asg 8 (.loc 1)) .nil)) (.nil)) (.cons (.unp [.sat 6,.sat 7] (.seq true (.cons (.loc 1) (.cons (.loc 8) .nil)))) (.cons (.asg 2 (.lit (.str []))) (.cons (.asg 3 (.nlst (.nil))) (.cons (.asg 4 (.app (.loc 3))) (.cons (.asg 5 (.nlst (.cons (.seq true (.cons (.loc 1) (.cons (.lit (.int (.ofNat 0))) .nil))) .nil))) (.cons (.while_ Gg Ge Gf) (.cons (.sasg 8 (.loc 2)) (.cons (.sasg 9 (.ite (.loc 3) (.p2 .idx (.loc 3) (.p1 .neg (.lit (.int (.ofNat 1))))) (.lit .none))) (.cons (.sasg 10 (.p1 .tuple (.loc 5))) .nil))))))))))))))))⟩
noncomputable def Q7:Fn:=⟨1,0,.cons (.asrt (.bl false (.cons (.p2 .eq (.loc 0) (.lit (.int (.ofNat 0)))) (.cons (.p2 .eq (.p2 .idx (.sat 2) (.p2 .sub (.loc 0) (.lit (.int (.ofNat 1))))) (.lit (.str [10]))) .nil)))) (.cons (.if_ (.p2 .gt (.loc 0) (.lit (.int (.ofNat 0)))) (.cons (.sasg 2 (.p3 .slc (.sat 2) (.loc 0) (.lit .none))) .nil) (.nil)) .nil)⟩
noncomputable def BA:E:=.bl true (.cons (.p2 .lt (.loc 0) (.loc 3)) (.cons (.p2 .isin (.p2 .idx (.loc 1) (.loc 0)) (.lit (.str [32,9]))) .nil))
noncomputable def Bx:Ss:=.cons (.asg 0 (.p2 .add (.loc 0) (.lit (.int (.ofNat 1))))) .nil
noncomputable def Bz:Ss:=.nil
noncomputable def BJ:Fn:=⟨0,4,.cons (.ex (.scall 4 (.nil))) (.cons (.unr [.loc 2,.loc 3] (.seq true (.cons (.sat 6) (.cons (.sat 7) .nil)))) (.cons (.asg 0 (.loc 2)) (.cons (.asg 1 (.sat 2)) (.cons (.while_ BA Bx Bz) (.cons (.ret (.p3 .slc (.loc 1) (.loc 2) (.loc 0))) .nil)))))⟩
noncomputable def AQ:E:=.p2 .notin (.p2 .idx (.loc 0) (.loc 1)) (.lit (.str [32,9,10]))
noncomputable def AO:Ss:=.cons (.asg 1 (.p2 .add (.loc 1) (.lit (.int (.ofNat 1))))) .nil
noncomputable def AP:Ss:=.nil
noncomputable def Bm:E:=.p2 .lt (.loc 1) (.loc 3)
noncomputable def Bj:Ss:=.cons (.asg 6 (.p2 .idx (.loc 0) (.loc 1))) (.cons (.if_ (.p2 .isin (.loc 6) (.lit (.str [40,91,123]))) (.cons (.asg 5 (.p2 .add (.loc 5) (.lit (.int (.ofNat 1))))) (.cons (.asg 1 (.p2 .add (.loc 1) (.lit (.int (.ofNat 1))))) .nil)) (.cons (.if_ (.p2 .isin (.loc 6) (.lit (.str [41,93,125]))) (.cons (.if_ (.loc 5) (.cons (.asg 5 (.p2 .sub (.loc 5) (.lit (.int (.ofNat 1))))) .nil) (.nil)) (.cons (.asg 1 (.p2 .add (.loc 1) (.lit (.int (.ofNat 1))))) .nil)) (.cons (.if_ (.bl false (.cons (.p2 .eq (.loc 6) (.lit (.str [34]))) (.cons (.p2 .eq (.loc 6) (.lit (.str [39]))) .nil))) (.cons (.asg 1 (.p1 .mend (.p3 .strre (.loc 0) (.loc 1) (.loc 3)))) .nil) (.cons (.if_ (.p2 .eq (.loc 6) (.lit (.str [35]))) (.cons (.brk) .nil) (.cons (.if_ (.bl true (.cons (.p2 .eq (.loc 5) (.lit (.int (.ofNat 0)))) (.cons (.p2 .eq (.loc 6) (.lit (.str [61]))) (.cons (.bl false (.cons (.p2 .eq (.loc 1) (.lit (.int (.ofNat 0)))) (.cons (.p2 .notin (.p2 .idx (.loc 0) (.p2 .sub (.loc 1) (.lit (.int (.ofNat 1))))) (.lit (.str [61,60,62,33]))) .nil))) (.cons (.p2 .ne (.p2 .idx (.loc 0) (.p2 .add (.loc 1) (.lit (.int (.ofNat 1))))) (.lit (.str [61]))) .nil))))) (.cons (.asg 4 (.lit (.int (.ofNat 1)))) (.cons (.brk) .nil)) (.cons (.asg 1 (.p2 .add (.loc 1) (.lit (.int (.ofNat 1))))) .nil)) .nil)) .nil)) .nil)) .nil)) .nil)
noncomputable def Bk:Ss:=.nil
noncomputable def Bp:E:=.p2 .isin (.p2 .idx (.loc 0) (.loc 1)) (.lit (.str [32,9]))
noncomputable def Bn:Ss:=.cons (.asg 1 (.p2 .add (.loc 1) (.lit (.int (.ofNat 1))))) .nil
noncomputable def Bo:Ss:=.nil
noncomputable def CK:Fn:=⟨0,7,.cons (.ex (.scall 4 (.nil))) (.cons (.asrt (.p2 .eq (.sat 5) (.glob 1 (.int (.ofNat 1))))) (.cons (.asg 0 (.sat 2)) (.cons (.asg 1 (.sat 6)) (.cons (.while_ Bp Bn Bo) (.cons (.asg 2 (.loc 1)) (.cons (.asg 3 (.p2 .add (.m3 .find (.loc 0) (.lit (.str [10])) (.loc 2)) (.lit (.int (.ofNat 1))))) (.cons (.asgs [.loc 4,.loc 5] (.lit (.int (.ofNat 0)))) (.cons (.while_ Bm Bj Bk) (.cons (.if_ (.loc 4) (.cons (.asg 1 (.p2 .add (.loc 1) (.lit (.int (.ofNat 1))))) (.cons (.asg 4 (.p1 .isnone (.p1 .bs (.p3 .slc (.loc 0) (.loc 1) (.loc 3))))) .nil)) (.nil)) (.cons (.if_ (.not_ (.loc 4)) (.cons (.asg 1 (.loc 2)) (.cons (.while_ AQ AO AP) .nil)) (.nil)) (.cons (.ret (.p2 .add (.p1 .len (.m2 .expand (.p3 .slc (.loc 0) (.sat 6) (.loc 1)) (.sat 1))) (.lit (.int (.ofNat 1))))) .nil)))))))))))⟩
noncomputable def Ld:Fn:=⟨0,0,.cons (.ret (.seq false (.cons (.seq true (.cons (.lit (.str [120,32,61])) (.cons (.lit (.str [32,121,32,92,10])) .nil))) (.cons (.seq true (.cons (.lit (.str [114,101,116,117,114,110])) (.cons (.lit (.str [32,97,32,61,61,32,98,32,92,10])) .nil))) (.cons (.seq true (.cons (.lit (.str [97,115,115,101,114,116])) (.cons (.lit (.str [32,40,99,61,49,41,32,92,10,32,32,105,110,32,100,32,92,10])) .nil))) (.cons (.seq true (.cons (.lit (.str [101,108,105,102])) (.cons (.lit (.str [32,97,91,39,61,39,93,32,92,10,9,111,114,32,98,32,61,32,99,32,92,10])) .nil))) (.cons (.seq true (.cons (.lit (.str [102,40,97,61,98,41,91,48,93,32,61])) (.cons (.lit (.str [32,39,120,39,32,92,10])) .nil))) (.cons (.seq true (.cons (.lit (.str [114,97,105,115,101])) (.cons (.lit (.str [32,92,10,32,32,101,32,92,10])) .nil))) .nil)))))))) .nil⟩
noncomputable def DV:Ss:=.cons (.aug 2 .add (.ite (.p2 .eq (.loc 3) (.lit (.str [9]))) (.p2 .sub (.loc 1) (.p2 .mod (.loc 2) (.loc 1))) (.lit (.int (.ofNat 1))))) .nil
noncomputable def Le:Fn:=⟨2,2,.cons (.asg 2 (.lit (.int (.ofNat 0)))) (.cons (.for_ [.loc 3] (.of (.loc 0)) DV) (.cons (.ret (.loc 2)) .nil))⟩
noncomputable def Lv:Ss:=.cons (.aug 5 .add (.loc 15)) (.cons (.augl 6 (.p2 .mul (.seq false (.cons (.loc 16) .nil)) (.p1 .len (.loc 15)))) .nil)
noncomputable def Lw:Ss:=.cons (.ex (.apnd 11 (.p1 .len (.loc 5)))) (.cons (.for_ [.loc 15,.loc 16] (.of (.p2 .idx (.glob 5 E3) (.p2 .mod (.loc 1) (.lit (.int (.ofNat 12)))))) Lv) .nil)
noncomputable def GV:Ss:=.cons (.ex (.mcall 1 8 (.cons (.loc 5) .nil))) (.cons (.ex (.mcall 5 8 (.cons (.loc 10) .nil))) (.cons (.asg 14 (.mcall 7 8 (.nil))) (.cons (.if_ (.bl false (.cons (.p2 .ne (.loc 14) (.loc 7)) (.cons (.not_ (.p1 .isint (.loc 14))) (.cons (.p2 .ne (.mcall 8 8 (.nil)) (.loc 3)) .nil)))) (.cons (.ret (.lit (.bool false))) .nil) (.nil)) .nil)))
noncomputable def DU:Ss:=.cons (.mkl 5 6 11) (.cons (.for_ [.loc 1] (.of (.p3 .slc (.loc 0) (.lit .none) (.lit (.int (.ofNat 6))))) Lw) (.cons (.asg 2 (.p1 .sum (.loc 0))) (.cons (.unp [.loc 12,.loc 13] (.p2 .idx (.fcall 9 (.nil)) (.p2 .mod (.loc 2) (.lit (.int (.ofNat 6)))))) (.cons (.asg 3 (.p2 .idx (.seq false (.cons (.lit (.str [])) (.cons (.lit (.str [32,32])) (.cons (.lit (.str [9])) .nil)))) (.p2 .mod (.p2 .fdiv (.loc 2) (.lit (.int (.ofNat 6)))) (.lit (.int (.ofNat 3)))))) (.cons (.asg 4 (.p2 .add (.lit (.int (.ofNat 1))) (.p2 .mod (.p2 .fdiv (.loc 2) (.lit (.int (.ofNat 18)))) (.lit (.int (.ofNat 8)))))) (.cons (.ex (.apnd 11 (.p1 .len (.loc 5)))) (.cons (.aug 5 .add (.p2 .add (.p2 .add (.loc 3) (.loc 12)) (.loc 13))) (.cons (.augl 6 (.p2 .mul (.seq false (.cons (.lit (.bool false)) .nil)) (.p1 .len (.p2 .add (.p2 .add (.loc 3) (.loc 12)) (.loc 13))))) (.cons (.asg 7 (.p2 .add (.lit (.int (.ofNat 1))) (.fcall 10 (.cons (.p2 .add (.loc 3) (.loc 12)) (.cons (.loc 4) .nil))))) (.cons (.asg 8 (.new (.cons (.lit (.int (.ofNat 4))) (.cons (.loc 4) .nil)))) (.cons (.ex (.mcall 1 8 (.cons (.loc 5) .nil))) .nil)))))))))))
noncomputable def DA:Ss:=.cons (.if_ (.bl true (.cons (.p1 .notnone (.loc 9)) (.cons (.p2 .notin (.loc 9) (.loc 11)) .nil))) (.cons (.ret (.lit (.bool false))) .nil) (.nil)) (.cons (.for_ [.loc 10] (.of (.p2 .add (.seq false (.cons (.ite (.p1 .isnone (.loc 9)) (.lit (.int (.ofNat 0))) (.loc 9)) (.cons (.lit (.int (.ofNat 0))) .nil))) (.loc 11))) GV) (.cons (.ret (.lit (.bool true))) .nil))
noncomputable def Xg:Nat:=16
noncomputable def fns:List Fn:=[aw,MB,Q8,BW,Q9,Q7,BJ,CK,BJ,Ld,Le]
end Ak.L04
section
open PySem PySem.W PySem.Calls PyProof.Rows
namespace Ak.L04
section
set_option maxHeartbeats 4000000
noncomputable def Eb:List Ent:=[⟨160,true,["indentwidth","tabwidth"],[],[],
  28024000032028008000012028008000021028008000032027027000038027008000012027008000024027008000038⟩,
 ⟨167,true,["s"],[],["len"],
  33027000028033008000012033008000024033008000028032020000021032008000012032008000017032008000021031039000043031033000034000000000000000000000000031032000034031030000031000000000000031030000035000000000000031030000043031025000026031019000020000000000000031015000018031015000021000000000000031015000026031015000043031008000043⟩,
 ⟨188,true,[],["code","continuation","level","lno","goodlines","push_good","i","n","ch","quote","firstlno","w"],["C_NONE","trans","C_BRACKET","len","C_STRING_FIRST_LINE","C_STRING_NEXT_LINES","C_BACKSLASH"],
  148022000025148012000021148012000026148012000026147028000031147022000023000000000000000000000000147021000023147011000020000000000000147011000024000000000000147011000031147008001026146061000064146055000056000000000000000000000000146054000056146044000053000000000000146044000057000000000000146044000064146032000038146016000028000000000000146016000038000000000000146015000065146008000065145028000040145008000012145008000025145008000040144027000036144012000024144012000036143100000101143092000097000000000000143092000101143067000086143051000063000000000000143051000086143027000046143011000023000000000000143011000046143011000102143008001036142020000021142016000017000000000000142016000021142012000013142012000021141035000046141020000032141020000046140028000029140023000024140019000020000000000000140019000024000000000000140019000029140016001046139028000029139022000025000000000000139022000029139016000019139016000029138026000030138020000021138015000019000000000000138015000022000000000000138015000030138012003046137023000024137019000020000000000000137019000024137012000024136025000029136019000021000000000000136019000029136012000029135016000024134028000029134023000024000000000000134023000029134016000029133036000037133030000034133020000024133020000029133020000038133016000017133016000038132021000024132015000017000000000000132015000024132012003024131016000024130039000058130024000036130024000058128039000058128024000036128024000058127034000042127029000030127023000026000000000000127023000030000000000000127023000042127020003058125024000032124032000033124028000029000000000000124028000033124024000025124024000033123040000041123034000037000000000000123034000041123028000031123028000041122038000042122032000033122027000031000000000000122027000034000000000000122027000042122024001041121035000036121031000032000000000000121031000036121024000036120029000033120023000025000000000000120023000033120020005032119024000032118028000033117042000045117032000041117032000046117032000046116040000041116031000036000000000000116031000041116028001046115032000033115027000028000000000000115027000033115024003033114036000037114030000033000000000000114030000037114024000027114024000037113029000033113023000025000000000000113023000033113020006032112024000029111032000033111028000029000000000000111028000033111024000025111024000033110044000049110038000039110034000035000000000000110034000039110032000033110028000029000000000000110028000033110023000027110028000039110023000040000000000000110023000049110020002029109024000032108029000032108023000025000000000000108023000032108020001032107028000029107024000025000000000000107024000029107020000021107020000029106030000031106025000029000000000000106025000032106020000022106020000032105026000027105022000023000000000000105022000027105016025058104024000025104020000021000000000000104020000025104016000017104016000025103033000034103024000029000000000000103020000023103020000030000000000000103020000034103016000017103016000034102027000030102016000024102016000030101036000037101028000033000000000000101028000037101020000025101020000037100048000049100040000045000000000000100040000049100034000035100030000031000000000000100030000035100028000029100024000025000000000000100024000029100019000023100024000035100019000036000000000000100019000049100016001037099024000026099016000021099016000026098034000037098028000030000000000000098028000037098021000024098015000017000000000000098015000024098015000037098012033024097016000024096036000037096028000033000000000000096028000037096020000025096020000037095019000024095016001037094021000024094015000017000000000000094015000024094012003024093016000024092032000033092024000029000000000000092024000033092016000021092016000033091021000024091015000017000000000000091015000024091012002024090016000024089030000033089020000029089020000034089020000034088028000029088019000024000000000000088019000029088016001034087028000029087022000025000000000000087022000029087016000019087016000029086021000025086015000017000000000000086015000025086012004024085016000024084021000024084015000017000000000000084015000024084012001024083020000021083016000017000000000000083016000021083012000013083012000021082022000023082017000021000000000000082017000024082012000014082012000024081018000019081014000015000000000000081014000019081008061021080023000027000000000000080019000022080019000028080016000017080015000029000000000000080011000012000000000000080008000009080008000012080008000029079020000029079020000036079008000017079008000036078038000039078037000040000000000000078025000034078008000012078008000022078008000040077022000023000000000000077016000019000000000000077008000013077008000023076023000029076008000020076008000029075035000039075028000033075015000019075015000027075015000040075008000012075008000040074034000037074028000032074015000019074015000027074015000038074008000012074008000038073034000037073028000032073015000019073015000027073015000038073008000012073008000038072036000039072028000034072015000019072015000027072015000040072008000012072008000040071040000043071028000038071015000019071015000027071015000044071008000012071008000044070015000019070030000035070015000029070015000036070008000012070008000036069015000019069015000024069008000012069008000024068027000028068008000012068008000024068008000028000000000000067012000018066031000032066011000015066011000027000000000000066011000032066008001018⟩,
 ⟨174,true,["is_char_in_string"],["limit","tries","i","code","pos","m","s"],["len","range","_synchre"],
  58015000018058008000018057022000023057016000019057016000023056037000038056019000036056019000039056015000039056012001023055019000020000000000000055019000025055019000027000000000000055015000016000000000000055012000013055012000016055012000027054035000036054029000033054020000028054020000037054015000016054015000037054008003023053018000019053012000015000000000000053012000019053008000009053008000019052019000022052012000022051022000023000000000000051022000029051022000031051016000019051016000031050044000045000000000000050044000051050044000053050026000043050026000054050022000054050015000016050015000055050012001031049025000029000000000000049016000024049016000030049012000013049012000030048011000014000000000000048018000022048011000022048008004022047020000021047012000017047012000021046016000021045022000023000000000000045022000029045022000031045016000019045016000031044044000045000000000000044044000051044044000053044026000043044026000054044022000054044015000016044015000055044012002021043034000039043031000032043025000029043016000024043016000040043012000013043012000040042041000042042036000037042033000034042027000031042016000020042016000026042016000038000000000000042016000042042012000013042012000042041016000021040019000020040015000016000000000000040015000020040012001021039037000042039034000035039027000032039016000020039016000026039016000043039012000013039012000043038027000028038021000026038021000029000000000000000000000000038012000017038008009021037020000024000000000000037016000019037016000025037008000013037008000025036032000036036021000025036021000030036020000037000000000000036014000017000000000000036008000012036008000017036008000037⟩,
 ⟨202,true,[],["i","p","lastch","stack","push_stack","bracketing","code","goodlines","q","nothing","m","ch","newp"],["len","tuple","range","_junkre","_chew_ordinaryre","_match_stringre"],
  224037000047000000000000224031000036224031000048224008000012224008000028224008000048223058000062223041000042000000000000000000000000223040000042223034000039000000000000223034000043223047000052223034000062223008000012223008000031223008000062222022000028222008000012222008000019222008000028221020000021221016000017000000000000221016000021221012000013221012000021220035000036220030000034000000000000220030000037220025000027000000000000220025000037220016000022220016000037219026000030219020000021219015000019000000000000219015000022000000000000219015000030219012001037218023000024218019000020000000000000218019000024218012000024217020000021217016000017000000000000217016000021217012000013217012000021216025000029216019000021000000000000216019000029216012000029215016000024214042000047000000000000214038000041214038000048214035000036214034000049214016000026214016000033214016000050214016000050213027000028213023000024000000000000213023000028213016000028212044000045212039000040212036000037212030000034212020000024212020000029212020000041000000000000212020000045212016000017212016000045211051000052211042000047000000000000211038000041211038000048000000000000211038000052211035000036211034000053211016000026211016000033211016000054211016000054210021000024210015000017000000000000210015000024210012005024209016000024208042000047000000000000208038000041208038000048208035000036208034000049208016000026208016000033208016000050208016000050207045000046207042000043207036000040207020000035207020000047000000000000207020000051207020000053207016000017207016000053206025000027206016000022206016000027205051000052205042000047000000000000205038000041205038000048000000000000205038000052205035000036205034000053205016000026205016000033205016000054205016000054204034000037204028000030000000000000204028000037204021000024204015000017000000000000204015000024204015000037204012005024203016000024202042000047000000000000202038000041202038000048202035000036202034000049202016000026202016000033202016000050202016000050201024000025201020000021000000000000201020000025201016000017201016000025200025000027200016000022200016000027199031000032199030000032199024000029199024000033199020000033198019000024198016001033197021000026197015000017000000000000197015000026197012006024196016000024195024000025195020000021000000000000195020000025195016000017195016000025194025000027194016000022194016000027193042000047000000000000193038000041193038000048193035000036193034000049193016000026193016000033193016000050193016000050192027000028192016000026192016000029192016000029191021000026191015000017000000000000191015000026191012005024190022000023190017000021000000000000190017000024190012000014190012000024189020000025188024000025188019000020000000000000188019000025188016001025187020000024187016000017187016000024186034000035186029000033000000000000186029000036186020000026186020000036185024000025185019000020000000000000185019000025185016001036184028000029184024000025000000000000184024000029184020000021184020000029183044000051183038000039183033000037000000000000183033000040000000000000183033000051183027000028183022000023000000000000183022000028183022000051183016001029182027000028182020000024000000000000182020000028182016000017182016000028181023000024000000000000181023000028181023000030181016000020181016000030180015000016180012009025179042000043179039000040179033000037179016000032179016000044179012000013179012000044178018000019178014000015000000000000178014000019178008043021177026000027177023000024177022000028177021000029177008000018177008000029176021000026176021000033176008000018176008000033175016000018175008000013175008000018174017000019174008000014174008000019173045000046173042000043173041000047173025000029173025000038173008000012173008000023173008000038173008000047172016000017172012000013172012000017171024000025171019000020000000000000171019000025171012000025170016000017170011000012000000000000170011000017170008002017169016000021167024000025167020000021000000000000167020000025167016000017167016000025166029000030166023000027166015000022166015000031166012003021165049000050165044000045165040000041000000000000165040000045165037000038165031000035165020000024165020000030165020000046000000000000165020000050165016000017165016000050164061000062164051000060000000000000164051000063164047000048164043000044000000000000164043000048164033000042000000000000164033000049164027000032164027000064000000000000000000000000164016000023164012001050163016000017163012000013163012000017162019000020162012000020161014000015161008008021160016000020000000000000160012000015160012000021160008000009160008000021159029000030159016000025000000000000159012000015159012000026000000000000159012000030159008000009159008000030158038000042158038000052158027000031158027000036158026000053000000000000158014000023000000000000158008000012158008000023158008000053157027000028157008000012157008000024157008000028156008000012156008000020156008000022156008000022000000000000155012000018154031000032154011000015154011000027000000000000154011000032154008001018⟩,
 ⟨181,true,["lo"],[],[],
  63034000036063024000028063024000033063034000037063024000038063012000016063012000021063012000038062016000017062011000013000000000000062011000017062008001038061047000051061041000042061036000038000000000000061036000042061026000030061026000035000000000000061026000043000000000000061026000051061021000022061015000017000000000000061015000022061015000051061008000051⟩,
 ⟨230,true,[],["j","code","i","n"],[],
  276022000023276020000021276015000019276020000023276015000024276008000024275020000021275016000017000000000000275016000021275012000013275012000021274035000040274029000030274024000028000000000000274024000031000000000000274024000040274018000019274014000015000000000000274014000019274014000040274008001021273015000019273015000024273008000012273008000024272012000013272008000009272008000013271033000037271033000046271016000020271016000031271015000047000000000000271011000012000000000000271008000009271008000012271008000047270008000012270008000020270008000022270008000022⟩,
 ⟨223,true,[],["code","i","startpos","endpos","found","level","ch"],["C_BACKSLASH","len","_twin_re_7","_match_stringre"],
  267072000073267054000058267054000067267040000041267024000028267024000039267019000023267024000041267019000042267019000053267019000068000000000000267015000018267015000069000000000000267015000073267008000073266024000025266020000021000000000000266020000025266016000017266016000025265033000040265023000024265018000022000000000000265018000025000000000000265018000040265012001025264016000024264012000013264012000024263015000020263011000020263008003025262044000050262042000043262037000041262042000050262037000051262020000030262020000036262020000052000000000000262056000060262020000060262012000017262012000060261020000021261016000017000000000000261016000021261012000013261012000021260011000016260008002060259024000025259020000021000000000000259020000025259016000017259016000025257016000021256024000025256016000021256016000025255104000107255098000099255094000095000000000000255094000099255089000093000000000000255089000100000000000000255089000107255076000082255066000067255062000063000000000000255062000067255057000061000000000000255057000068000000000000255057000082255052000053255047000048000000000000255047000053255047000082255038000041255032000034000000000000255032000041255026000027255017000022000000000000255017000027255017000108255012004025254016000021253023000026253017000019000000000000253017000026253012006025252045000051252042000043252036000040252020000035252020000052000000000000252020000056252020000058252016000017252016000058251036000039251030000032000000000000251030000039251023000026251017000019000000000000251017000026251017000039251012008025250024000025250020000021000000000000250020000025250016000017250016000025249036000037249028000033000000000000249028000037249020000025249020000037248019000024248016001037247023000028247017000019000000000000247017000028247012012025246024000025246020000021000000000000246020000025246016000017246016000025245032000033245024000029000000000000245024000033245016000021245016000033244021000026244015000017000000000000244015000026244012015025243022000023243017000021000000000000243017000024243012000014243012000024242018000024242014000015000000000000242014000024242008017025241024000025000000000000241016000021000000000000241008000013241008000025240045000046240033000041240027000031240017000021240017000026240017000042000000000000240017000046240008000014240008000046239019000020239008000016239008000020238020000021238016000017000000000000238016000021238012000013238012000021237025000030237019000020237014000018000000000000237014000021000000000000237014000030237008001021236012000016236012000027236008000009236008000027235015000019235015000024235008000012235008000024234036000047234015000019234015000032000000000000234015000047234008000047233008000012233008000020233008000022233008000022⟩,
 ⟨230,true,[],["j","code","i","n"],[],
  276022000023276020000021276015000019276020000023276015000024276008000024275020000021275016000017000000000000275016000021275012000013275012000021274035000040274029000030274024000028000000000000274024000031000000000000274024000040274018000019274014000015000000000000274014000019274014000040274008001021273015000019273015000024273008000012273008000024272012000013272008000009272008000013271033000037271033000046271016000020271016000031271015000047000000000000271011000012000000000000271008000009271008000012271008000047270008000012270008000020270008000022270008000022⟩,
 ⟨296,false,[],[],[],
  289179000194289170000177289169000195289155000166289140000153289139000167289107000136289099000105289098000137289071000095289061000069289060000096289043000057289033000041289032000058289020000029289013000018289012000030289011000196289004000196⟩,
 ⟨303,false,["text","tab"],["column","sign"],[],
  294011000017294004000017293058000059293033000036293024000030000000000000293024000036293018000021000000000000293018000036293048000052293040000044000000000000293040000052293018000059293008000014293008000059292016000020000000000000000000000000292008000012292004001059291013000014291004000010291004000014⟩]
noncomputable def E2:Ent:=⟨310,false,["script"],["x","total","white","tab","text","inside","due","parser","found","low","starts","left","right","told","part","flag"],["sum","Parser","_law_items","_law_lasts","len","_law_width","isinstance","int"],
  321011000015321004000015320019000024320012000024319090000095319055000061319055000084319055000086000000000000319055000095319041000045319047000050319030000040319030000051319026000051319019000022319011000015000000000000319011000022319011000095319008001024318015000021318015000046318015000048318008000012318008000048317022000025317008000014317008000021317008000026317008000026316024000028316008000014316008000023316008000029316008000029315052000058315047000048315040000045315016000017315021000026000000000000315030000034315021000034315016000045315015000049000000000000315015000058000000000000000000000000315008000011315004005024314015000020314008000020313042000048313029000034000000000000313029000048313007000012000000000000313020000024313007000024313007000048313004001020312041000060312012000018312012000040312012000061312004000009312004000061311020000024311004000010311004000019311004000025311004000025310023000026310020000021310013000019310013000027310004000010310004000027309039000042309033000037309025000030000000000000309025000037309014000024309014000043309010000011000000000000309010000043309004000007309004000043308043000048308036000040308028000033000000000000308028000040000000000000308028000048000000000000308024000027308024000049308015000020308014000021000000000000308014000049308004000010308004000049307027000032307020000024307012000017000000000000307012000024000000000000307012000032307004000008307004000032306022000026000000000000306018000021306018000027306004000010306004000017306004000028306004000028305028000029305023000025305014000019000000000000305014000025000000000000305014000029305010000011000000000000305010000029305004000007305004000029304042000043304038000039304029000034000000000000304029000039000000000000304029000043304023000027304017000021304013000015304012000028000000000000304012000044304004000009304004000044303039000040303031000036000000000000303031000040303018000028303018000030000000000000303018000041000000000000303010000015000000000000303004000008303004000015303004000041302016000022000000000000302012000015302012000023302004000009302004000023301035000039000000000000301031000034301031000040301023000027301022000028000000000000301022000040301012000018301012000040300020000024300012000016300012000024299041000043299037000038000000000000299037000043299026000036000000000000299026000044299012000022000000000000299018000022000000000000299012000016299008002040298026000030000000000000298022000025298022000031298008000014298008000021298008000032298008000032297021000022000000000000297013000019297020000022297013000023000000000000000000000000297008000009297004004040296036000038296032000034296028000030296027000039296018000024296010000016296004000008296004000024296004000039⟩
noncomputable def attrs:List Str:=["indentwidth","tabwidth","code","study_level","goodlines","continuation","stmt_start","stmt_end","lastch","lastopenbracketpos","stmt_bracketing"]
noncomputable def Dj:List Str:=["__init__","set_code","_study1","find_good_parse_start","_study2","set_lo","get_base_indent_string","compute_backslash_indent","get_base_indent_string","_law_lasts","_law_width"]
noncomputable def gl:List (Str×Val):=[("C_NONE",.int 0),("C_BACKSLASH",.int 1),("C_STRING_FIRST_LINE",.int 2),("C_STRING_NEXT_LINES",.int 3),("C_BRACKET",.int 4),("_law_items",E3)]
noncomputable def tx:Tx:=⟨attrs,"self",gl,Dj,9,"Parser"⟩
noncomputable abbrev kf:=Hd.kf
noncomputable def MA:Tb:=⟨E2.pargs++E2.locs,attrs,"self",false,["inside"],E2.gls,gl,Dj,9,"Parser","",⟨.function,[],false,false,[]⟩,E2.ps⟩
theorem ents(P:Params):K9 tx (kf P) Eb L04.fns=true:=by kernel_rfl
theorem texts(P:Params):Tc tx Eb L04.fns=U6 (kf P) Eb:=by kernel_rfl
theorem glob(P:Params):kg (kf P) gl=true:=by kernel_rfl
theorem attr(P:Params):attrs.all (i7 (kf P) 254)=true:=by kernel_rfl
noncomputable def Rc(K:Frag):List Str→List Ent→Bool
 |[],_=>true
 |n::r,l=>(match l with |[]=>false |e::es=>gF K 254 attrs n e.ad && Rc K r es)
theorem Ah(P:Params):Rc (kf P) (Dj.take 9) Eb=true:=by kernel_rfl
theorem gk(P:Params):(fc (kf P) "_law_lasts" 296 && fc (kf P) "_law_width" 303)=true:=by kernel_rfl
theorem lF(P:Params):ki (kf P) 254 160 "Parser" 69 68 71 70 63 96=true:=by kernel_rfl
noncomputable def OS:Arguments:=⟨[],[⟨"k",none,eQ 312048000049⟩],none,[],[],none,[]⟩
noncomputable def Lp:Scope:=⟨.function,[("k",.local),("inside",.free)],false,false,[]⟩
noncomputable def ak:PH where
 nm:="inside"
 nk:="k"
 qual:="law.<locals>.<lambda>"
 params:=OS
 scope:=Lp
 p1:=eQ 312051000057
 p2:=eQ 312058000059
 p3:=eQ 312051000060
theorem gz:Fy MA DU 0=true:=by kernel_rfl
theorem aq:Fy MA DA (DJ DU+6)=true:=by kernel_rfl
theorem gA(P:Params):C2 MA DU 0++am MA ak 8 9 3 (DJ DU)::C2 MA DA (DJ DU+6)=Ff (fdOf (kf P) 310):=by kernel_rfl
theorem au(P:Params):aE (fdOf (kf P) 310).scope "self" false (E2.pargs++E2.locs) ["inside"] E2.gls=true:=by kernel_rfl
end
end Ak.L04
namespace Ak
theorem NF{PC:Addr}{Z:Addr→Obj→Prop}{ρ:List Addr}:∀{vs:List Value} {ns:List Int},IntsAre vs ns→Bv PC Z ρ (ns.map .int) vs
 |_,_,.nil=>.nil
 |_,_,.cons n t h=>.cons (.int n t) (NF h)
theorem T2{c:Cx}{f:Fx}{gls:List Str}{wd:Str}{ca:Addr}(h:aE f.cs c.self false f.names [wd] gls=true)(hn:aB f.names=true)(hs:BF f.names c.self=false)
  (hd:f.names.all (fun n=> !(n==("__debug__":Str)) && !(n==("__classdict__":Str)))=true) (hcl:f.cl=[(wd,ca)]):Hs c f:=by
 have h1:=(Ad (Ad h).2).1
 have lk:∀{n:Str} {a:Addr},f.cl.lookup n=some a→n=wd:=fun{n a} ha=>by
  rw[hcl,jg]at ha
  induction q:n==wd using za with
  |true=>exact eq_of_beq q
  |false=>rw[q]at ha;exact nz ha
 refine{nd:=Kg hn,self:=fun hm=>?_,kinds:=fun n hm=>?_,inj:=fun n n' a ha hb=>(lk hb).trans (lk ha).symm,dbg:=fun n hm=>?_}
 ·rw[D9 hm]at hs;exact ft hs.symm
 ·have h2:=GT (zR.mp h1 n hm)
  induction q:BF [wd] n using za with
  |true=>
   rw[q]at h2
   refine .inr (.inl ⟨h2,ca,?_⟩)
   rw[hcl,zI.mp (AN q),jg,jF]
  |false=>rw[q]at h2;exact .inl h2
 ·have:=Ad (zR.mp hd n hm)
  exact⟨DH this.1,DH this.2⟩
end Ak
end
namespace Ak.Pu
inductive Md where
 |nm (e:Bool) |esc |cm
 |q1 (d:Bool) (f:Nat) |q2 (d:Bool) (f:Nat) |s1 (d:Bool) (f:Nat) |e1 (d:Bool) (f:Nat) |s3 (d:Bool) (f k:Nat) |e3 (d:Bool) (f:Nat)
structure A1 where
 md:Md
 lv:Nat
 ln:Nat
 gd:List Nat
noncomputable def qc(d:Bool):Nat:=cond d 34 39
noncomputable def A1.to(a:A1)(m:Md):A1:=⟨m,a.lv,a.ln,a.gd⟩
noncomputable def A1.nl(a:A1)(m:Md):A1:=⟨m,a.lv,a.ln+1,cond (Nat.beq a.lv 0) (a.gd++[a.ln+1]) a.gd⟩
noncomputable def A1.HI(a:A1)(m:Md):A1:=⟨m,a.lv,a.ln+1,a.gd⟩
noncomputable def bN(a:A1)(e:Bool)(c:Nat):A1:=
 cond (Nat.beq c 120) (a.to (.nm e)) (cond (Nat.beq c 10) (a.nl (.nm false)) (cond (Nat.beq c 40) ⟨.nm false,a.lv+1,a.ln,a.gd⟩ (cond (Nat.beq c 41) ⟨.nm false,a.lv - 1,a.ln,a.gd⟩
 (cond (Nat.beq c 34) (a.to (.q1 true a.ln)) (cond (Nat.beq c 39) (a.to (.q1 false a.ln)) (cond (Nat.beq c 35) (a.to .cm) (cond (Nat.beq c 92) (a.to .esc) (a.to (.nm false)))))))))
noncomputable def Vi(a:A1)(d:Bool)(f c:Nat):A1:=
 cond (Nat.beq c (qc d)) (a.to (.nm false)) (cond (Nat.beq c 10) (a.nl (.nm false)) (cond (Nat.beq c 92) (a.to (.e1 d f)) (a.to (.s1 d f))))
noncomputable def PT(a:A1)(d:Bool)(f k c:Nat):A1:=
 cond (Nat.beq c (qc d)) (cond (Nat.ble 2 k) (a.to (.nm false)) (a.to (.s3 d f (k+1))))
  (cond (Nat.beq c 10) (a.HI (.s3 d f 0)) (cond (Nat.beq c 92) (a.to (.e3 d f)) (a.to (.s3 d f 0))))
noncomputable def bit(a:A1)(c:Nat):A1:=match a.md with
 | .nm e=>bN a e c
 | .esc=>cond (Nat.beq c 10) (a.HI (.nm true)) (a.to (.nm false))
 | .cm=>cond (Nat.beq c 10) (a.nl (.nm false)) a
 | .q1 d f=>cond (Nat.beq c (qc d)) (a.to (.q2 d f)) (Vi a d f c)
 | .q2 d f=>cond (Nat.beq c (qc d)) (a.to (.s3 d f 0)) (bN a false c)
 | .s1 d f=>Vi a d f c
 | .e1 d f=>cond (Nat.beq c 10) (a.HI (.s1 d f)) (a.to (.s1 d f))
 | .s3 d f k=>PT a d f k c
 | .e3 d f=>cond (Nat.beq c 10) (a.HI (.s3 d f 0)) (a.to (.s3 d f 0))
theorem PY{P:A1→Prop}(b:A1)(c:Nat)(o:∀m lv,P ⟨m,lv,b.ln,b.gd⟩)(nl:∀m,P (b.nl m))(ln:∀m,P (b.HI m)):P (bit b c):=by
 have cn:∀{c:Bool} {x y:A1},P x→P y→P (cond c x y):=fun{c _ _} h1 h2=>by induction c using za <;>assumption
 have bn:∀{e},P (bN b e c):=cn (o _ _) (cn (nl _) (cn (o _ _) (cn (o _ _) (cn (o _ _) (cn (o _ _) (cn (o _ _) (cn (o _ _) (o _ _))))))))
 have bs:∀{d f},P (Vi b d f c):=cn (o _ _) (cn (nl _) (cn (o _ _) (o _ _)))
 cases b with |mk m lv n g=>induction m using Md.casesOn with
 |nm e=>exact bn
 |esc=>exact cn (ln _) (o _ _)
 |cm=>exact cn (nl _) (o _ _)
 |q1 d f=>exact cn (o _ _) bs
 |q2 d f=>exact cn (o _ _) bn
 |s1 d f=>exact bs
 |e1 d f=>exact cn (ln _) (o _ _)
 |s3 d f k=>exact cn (cn (o _ _) (o _ _)) (cn (ln _) (cn (o _ _) (o _ _)))
 |e3 d f=>exact cn (ln _) (o _ _)
noncomputable def run:A1→Txt→A1
 |a,[]=>a
 |a,c::y=>run (bit a c) y
theorem Gz(a:A1)(x y:Txt):run a (x++y)=run (run a x) y:=by
 induction x generalizing a with
 |nil=>rfl
 |cons c x ih=>exact ih _
theorem CG(a:A1):bit (bit a 120) 120=bit a 120:=by
 obtain⟨m,l,n,g⟩:=a
 induction m using Md.casesOn with
 |q1 d f=>induction d using za <;>rfl
 |q2 d f=>induction d using za <;>rfl
 |s1 d f=>induction d using za <;>rfl
 |s3 d f k=>induction d using za <;>rfl
 |e1 d f=>induction d using za <;>rfl
 |e3 d f=>induction d using za <;>rfl
 |_=>rfl
theorem Wr(a:A1):bit (bit a 10) 120=bit a 10:=by
 obtain⟨m,l,n,g⟩:=a
 induction m using Md.casesOn with
 |q1 d f=>induction d using za <;>rfl
 |q2 d f=>induction d using za <;>rfl
 |s1 d f=>induction d using za <;>rfl
 |s3 d f k=>induction d using za <;>rfl
 |e1 d f=>induction d using za <;>rfl
 |e3 d f=>induction d using za <;>rfl
 |_=>rfl
theorem Kr:∀{x t:Txt},pre? x t=true→t=x++t.drop x.length
 |[],_,_=>rfl
 |a::x,b::y,h=>by
  induction hb:Nat.beq a b using za with
  |true=>
   have h':pre? x y=true:=by have h2:cond (Nat.beq a b) (pre? x y) false=true:=h;rw[hb]at h2;exact h2
   have:=Kr h'
   rw[zD hb]
   exact zB (b::·) this
  |false=>have h2:cond (Nat.beq a b) (pre? x y) false=true:=h;rw[hb]at h2;exact absurd h2 jE
theorem Cq{o:Nat}{old new:Txt}(h:∀a,run a (o::old)=run a new):∀(t:Txt) (k:Nat) (a:A1),run a (AA (o::old) new k t)=run a (t.drop k)
 |[],k,a=>by rw[List.drop_nil];induction k using zE <;>rfl
 |c::y,k+1,a=>Cq h y k a
 |c::y,0,a=>by
  induction hp:pre? (o::old) (c::y)using za with
  |true=>
   have e:AA (o::old) new 0 (c::y)=new++AA (o::old) new old.length y:=by
    show cond (pre? (o::old) (c::y)) _ _=_
    rw[hp];rfl
   rw[e,Gz,Cq h y old.length,←h,←Gz]
   exact zB (run a) (Kr hp).symm
  |false=>
   have e:AA (o::old) new 0 (c::y)=c::AA (o::old) new 0 y:=by
    show cond (pre? (o::old) (c::y)) _ _=_
    rw[hp];rfl
   rw[e]
   exact Cq h y 0 _
noncomputable def sq(t:Txt):Txt:=
 AA [10,120] [10] 0 (AA [120,120] [120] 0 (AA [120,120] [120] 0 (AA [120,120,120,120] [120] 0
  (AA [120,120,120,120,120,120,120,120] [120] 0 (t.map CY)))))
theorem Yv(a:A1)(t:Txt):run a (sq t)=run a (t.map CY):=by
 have h1:∀a,run a [10,120]=run a [10]:=fun a=>Wr a
 have h2:∀a,run a [120,120]=run a [120]:=fun a=>CG a
 have h4:∀a,run a [120,120,120,120]=run a [120]:=fun a=>by
  show bit (bit (bit (bit a 120) 120) 120) 120=_
  rw[CG,CG,CG];rfl
 have h8:∀a,run a [120,120,120,120,120,120,120,120]=run a [120]:=fun a=>by
  show bit (bit (bit (bit (bit (bit (bit (bit a 120) 120) 120) 120) 120) 120) 120) 120=_
  rw[CG,CG,CG,CG,CG,CG,CG];rfl
 unfold sq
 rw[Cq h1 _ 0,j4,Cq h2 _ 0,j4,Cq h2 _ 0,j4,Cq h4 _ 0,j4,Cq h8 _ 0,j4]
noncomputable def tok(c:Nat):Prop:=c=120∨c=10∨c=40∨c=41∨c=34∨c=39∨c=35∨c=92
theorem Cp{o:Nat}{old new:Txt}{P:Nat→Prop}(hn:∀c∈new,P c):∀(t:Txt) (k:Nat),(∀c∈t,P c)→∀c∈AA (o::old) new k t,P c
 |[],0,_,c,h=>nomatch h
 |[],k+1,_,c,h=>nomatch h
 |d::y,k+1,H,c,h=>Cp hn y k (fun c h=>H c (.tail _ h)) c h
 |d::y,0,H,c,h=>by
  have h:c∈cond (pre? (o::old) (d::y)) (new++AA (o::old) new old.length y) (d::AA (o::old) new 0 y):=h
  induction hp:pre? (o::old) (d::y)using za with
  |true=>
   rw[hp]at h
   induction zF.mp h using jI with
   |inl h=>exact hn c h
   |inr h=>exact Cp hn y _ (fun c h=>H c (.tail _ h)) c h
  |false=>
   rw[hp]at h
   cases h with
   |head=>exact H _ (.head _)
   |tail _ h=>exact Cp hn y _ (fun c h=>H c (.tail _ h)) c h
theorem Cr{l:Txt}{b c:Nat}(h:cin c (b::l)=true):c=b∨cin c l=true:=by
 have h:cond (Nat.beq c b) true (cin c l)=true:=h
 induction hb:Nat.beq c b using za with
 |true=>exact .inl (zD hb)
 |false=>rw[hb]at h;exact .inr h
theorem Nr{l m:Txt}{c:Nat}:cin c (l++m)=true→cin c l=true∨cin c m=true:=by
 induction l with
 |nil=>exact .inr
 |cons b l ih=>
  intro h
  show cond (Nat.beq c b) true (cin c l)=true∨_
  have h:cond (Nat.beq c b) true (cin c (l++m))=true:=h
  induction hb:Nat.beq c b using za with
  |true=>exact .inl rfl
  |false=>rw[hb]at h;exact ih h
theorem Nu{l:Txt}{c:Nat}:cin c l=true→c∈l:=by
 induction l with
 |nil=>exact nofun
 |cons b l ih=>exact fun h=>(Cr h).elim (fun e=>e▸ .head _) fun h=>.tail _ (ih h)
theorem YY(c:Nat):tok (CY c):=by
 unfold CY
 induction h1:cin c [40,123,91]using za with
 |true=>exact .inr (.inr (.inl rfl))
 |false=>
  induction h2:cin c [41,125,93]using za with
  |true=>exact .inr (.inr (.inr (.inl rfl)))
  |false=>
   induction h3:cin c [34,39,92,10,35]using za with
   |false=>exact .inl rfl
   |true=>
    show tok c
    exact(Cr h3).elim (fun e=>.inr (.inr (.inr (.inr (.inl e))))) fun h=>(Cr h).elim (fun e=>.inr (.inr (.inr (.inr (.inr (.inl e)))))) fun h=>
     (Cr h).elim (fun e=>.inr (.inr (.inr (.inr (.inr (.inr (.inr e))))))) fun h=>(Cr h).elim (fun e=>.inr (.inl e)) fun h=>(Cr h).elim (fun e=>.inr (.inr (.inr (.inr (.inr (.inr (.inl e))))))) nofun
theorem YX(t:Txt):∀c∈sq t,tok c:=by
 have hx:∀c∈[120],tok c:=fun c h=>by cases h with |head=>exact .inl rfl |tail _ h=>exact nomatch h
 have hn:∀c∈[10],tok c:=fun c h=>by cases h with |head=>exact .inr (.inl rfl) |tail _ h=>exact nomatch h
 refine Cp hn _ _ (Cp hx _ _ (Cp hx _ _ (Cp hx _ _ (Cp hx _ _ fun c h=>?_))))
 refine Ab (zK.mp h) fun d _ hq2=>?_;subst hq2
 exact YY d
noncomputable def Ends(t:Txt):Prop:=t=[]∨∃u,t=u++[10]
theorem BV{o x:Nat}{old w new:Txt}(hw:old=w++[x])(hx:x≠10):∀(u:Txt) (k:Nat),k≤u.length→∃v,AA (o::old) new k (u++[10])=v++[10]
 |[],0,_=>⟨[],by
   have:pre? (o::old) [10]=false:=by
    rw[hw]
    show cond (Nat.beq o 10) (pre? (w++[x]) []) false=false
    induction w using zi <;>cases Nat.beq o 10 <;>rfl
   show cond (pre? (o::old) [10]) _ _=_
   rw[this];rfl⟩
 |c::u,k+1,h=>BV hw hx u k (Nat.le_of_succ_le_succ h)
 |c::u,0,_=>by
  induction hp:pre? (o::old) (c::(u++[10]))using za with
  |false=>
   obtain⟨v,hv⟩:=BV (new:=new) hw hx u 0 (zH _)
   refine⟨c::v,?_⟩
   show cond (pre? (o::old) (c::(u++[10]))) _ _=_
   rw[hp];exact zB (c::·) hv
  |true=>
   have e:=z9 (Kr hp)
   have hl:old.length≤u.length:=by
    have e2:u++[10]=old++(u++[10]).drop old.length:=e.2
    induction hd:(u++[10]).drop old.length using zi with
    |nil=>
     rw[hd,zL,hw]at e2
     exact absurd (z9 (List.append_inj' e2 rfl).2).1.symm hx
    |cons y ys=>
     have:=zB List.length e2
     rw[hd]at this
     simp only[zd,zy,JH]at this
     lia
   obtain⟨v,hv⟩:=BV (new:=new) hw hx u old.length hl
   refine⟨new++v,?_⟩
   show cond (pre? (o::old) (c::(u++[10]))) _ _=_
   rw[hp,zk];exact zB (new++·) hv
theorem Tg{t:Txt}(h:Ends t):Ends (sq t):=by
 induction h using jI with
 |inl h=>subst h;exact .inl rfl
 |inr h=>
  refine zg h ?_;clear h;intro u hq1;subst hq1
  have e:(u++[10]).map CY=u.map CY++[10]:=by rw[jm];rfl
  unfold sq
  rw[e]
  refine zg (BV (o:=120) (w:=[120,120,120,120,120,120]) (x:=120) (new:=[120]) rfl (by decide) (u.map CY) 0 (zH _)) fun v hv=>?_
  rw[show AA [120,120,120,120,120,120,120,120] [120] 0 (u.map CY++[10])=_ from hv]
  refine zg (BV (o:=120) (w:=[120,120]) (x:=120) (new:=[120]) rfl (by decide) v 0 (zH _)) fun v hv=>?_
  rw[show AA [120,120,120,120] [120] 0 (_++[10])=_ from hv]
  refine zg (BV (o:=120) (w:=[]) (x:=120) (new:=[120]) rfl (by decide) v 0 (zH _)) fun v hv=>?_
  rw[show AA [120,120] [120] 0 (_++[10])=_ from hv]
  refine zg (BV (o:=120) (w:=[]) (x:=120) (new:=[120]) rfl (by decide) v 0 (zH _)) fun v hv=>?_
  rw[show AA [120,120] [120] 0 (_++[10])=_ from hv]
  refine zg (BV (o:=10) (w:=[]) (x:=120) (new:=[10]) rfl (by decide) v 0 (zH _)) fun v hv=>?_
  exact .inr ⟨v,hv⟩
theorem Bs{o:Nat}{old new:Txt}(hn:new.length≤old.length+1):∀(t:Txt) (k:Nat),(AA (o::old) new k t).length≤t.length - k
 |[],k=>by induction k using zE <;>exact zH _
 |c::y,k+1=>by
  rw[zy,Nat.add_sub_add_right]
  exact Bs hn y k
 |c::y,0=>by
  show List.length (cond (pre? (o::old) (c::y)) (new++AA (o::old) new old.length y) (c::AA (o::old) new 0 y))≤_
  induction hp:pre? (o::old) (c::y)using za with
  |false=>exact zN (Bs hn y 0)
  |true=>
   have e:=zB List.length (Kr hp)
   have:=Bs (o:=o) hn y old.length
   show(new++AA (o::old) new old.length y).length≤_
   simp only[zd,zy,List.drop_succ_cons,z4]at e ⊢
   lia
theorem Xj(t:Txt):(sq t).length≤t.length:=by
 unfold sq
 refine zl (Bs (by decide) _ 0) (zl (Bs (by decide) _ 0) (zl (Bs (by decide) _ 0) (zl (Bs (by decide) _ 0) (zl (Bs (by decide) _ 0) ?_))))
 rw[z3];exact zw _
section
open L04
noncomputable abbrev I(n:Nat):Option LV:=some (.v (.int (.ofNat n)))
noncomputable def gv(g:List Nat):List Val:=g.map fun k=>.int (.ofNat k)
theorem EZ(g:List Nat)(k:Nat):gv (g++[k])=gv g++[.int (.ofNat k)]:=jm
theorem C9(g:List Nat):(gv g).length=g.length:=z3 ..
noncomputable def PA(t:Txt)(cont lv ln:Nat)(g:List Nat)(i:Nat)(ch q f w:Option LV)(sf:List (Option LV))(h:List Cell):St:=
 ⟨[some (.v (.str t)),I cont,I lv,I ln,some (.loc 0),some (.app 0),I i,I t.length,ch,q,f,w],[gv g],sf,h⟩
theorem BE{a b:Nat}(h:a < b):Nat.blt a b=true:=zt h
theorem HX{a b:Nat}(h:b≤a):Nat.blt a b=false:=by
 induction e:Nat.blt a b using za with
 |false=>rfl
 |true=>exact absurd (zp e) (Nat.not_le_of_lt (jK h))
theorem De{a b:Nat}(h:a=b):Nat.beq a b=true:=by rw[h];exact Jd b
theorem Be{a b:Nat}(h:a≠b):Nat.beq a b=false:=by
 induction e:Nat.beq a b using za with
 |false=>rfl
 |true=>exact absurd (zD e) h
section
variable {rx:Rx}
theorem Co{t:Txt}{i c:Nat}(h:t[i]? =some c):AG rx .idx (.str t) (.int (.ofNat i))=some (.str [c]):=by
 have h:IC t (.ofNat i)=some c:=h
 show(match IC t (.ofNat i)with |some c=>some (Val.str [c]) |none=>none)=_
 rw[h]
end
theorem D6{t:Txt}{i:Nat}(h:i < t.length):∃c,t[i]? =some c∧t.drop i=c::t.drop (i+1):=
 ⟨t[i],jc h,j7 h⟩
theorem FJ(l:Nat):(Int.ofNat (l+1) - Int.ofNat 1)=Int.ofNat l:=Int.add_sub_cancel (Int.ofNat l) 1
theorem Su{l:Txt}{n:Nat}:l.take (min n l.length)=l.take n:=by
 by_cases h:n≤l.length
 ·rw[jd h]
 ·rw[J3 (Ju h),List.take_length,jX (Ju h)]
theorem Se{t:Txt}{i:Nat}(h:i < t.length)(k:Nat):slice t (Int.ofNat (i+1) - Int.ofNat 1) (Int.ofNat (i+1)+Int.ofNat k)=(t.drop i).take (k+1):=by
 rw[FJ]
 show(t.take (min (i+1+k) t.length)).drop (min i t.length)=_
 rw[Su,jd (Jb h),JS,zT,jy 1 k,jn]
theorem V8(c:Nat)(y:Txt)(q:Nat):Bt ((c::y).take 1) [q]=Nat.beq c q:=by
 show cond (Nat.beq c q) _ false=_
 induction Nat.beq c q using za <;>rfl
theorem Dv{c k:Nat}(h:c=k):Bt [c] [k]=true:=by
 show cond (Nat.beq c k) true false=_
 rw[De h];rfl
theorem CQ{c k:Nat}(h:c≠k):Bt [c] [k]=false:=by
 show cond (Nat.beq c k) true false=_
 rw[Be h];rfl
theorem Qi(a f:Nat):IT (Int.ofNat a - Int.ofNat 1) (Int.ofNat f)=Nat.beq a (f+1):=by
 induction a using zE with
 |zero=>rfl
 |succ l=>rw[FJ];rfl
theorem D7{t:Txt}(h:Ends t)(i:Nat):Ends (t.drop i):=by
 induction h using jI with
 |inl h=>exact .inl (by rw[h,List.drop_nil])
 |inr h=>
  refine zg h ?_;clear h;intro u hq1;subst hq1
  by_cases hi:i≤u.length
  ·exact .inr ⟨u.drop i,jR hi⟩
  ·exact .inl (jL (by rw[zd];exact JD hi))
theorem CH{c:Nat}{y:Txt}(h:Ends (c::y))(hc:c≠10):y≠[]:=by
 intro e
 subst e
 induction h using jI with
 |inl h=>exact nomatch h
 |inr h=>
  refine zg h fun u hu=>?_
  induction u using zi with
  |nil=>exact hc (z9 hu).1
  |cons a u=>exact absurd (z9 hu).2 (by induction u using zi <;>exact nofun)
theorem Ka{t:Txt}{i:Nat}(h:t.drop i≠[]):i < t.length:=by
 refine JD fun hl=>h (jL hl)
variable {C:Cfg}{X:A7→St→Prop}
theorem MN{C:Cfg}{K:Bool→St→Prop}{σ:St}{c i:Nat}(hl:Ax σ.loc i=some (.v (.str [c])))(hc:c=34∨c=39)(k:K true σ):
  Ec C X (.bl false (.cons (.p2 .eq (.loc i) (.lit (.str [34]))) (.cons (.p2 .eq (.loc i) (.lit (.str [39]))) .nil))) K σ:=by
 show B9 (Ax σ.loc i) _
 rw[hl]
 induction hc using jI with
 |inl h=>exact Ap (Dv h) k
 |inr h=>
  refine AM (CQ (by rw[h];decide)) ?_
  show B9 (Ax σ.loc i) _
  rw[hl]
  show K (Bt [c] [39]) σ
  rw[Dv h]
  exact k
noncomputable def fU(q:Nat)(l:Txt):Bool:=Bt (l.take 3) [q,q,q]
theorem V9{q:Nat}:∀{l:Txt},fU q l=true→l=q::q::q::l.drop 3
 |[],h=>nomatch h
 |[a],h=>by
  have h:cond (Nat.beq a q) false false=true:=h
  induction hb:Nat.beq a q using za <;>rw[hb]at h <;>exact nomatch h
 |[a,b],h=>by
  have h:cond (Nat.beq a q) (cond (Nat.beq b q) false false) false=true:=h
  induction hb:Nat.beq a q using za <;>induction hb':Nat.beq b q using za <;>rw[hb,hb']at h <;>exact nomatch h
 |a::b::c::y,h=>by
  have h:cond (Nat.beq a q) (cond (Nat.beq b q) (cond (Nat.beq c q) true false) false) false=true:=h
  induction hb:Nat.beq a q using za with
  |false=>rw[hb]at h;exact nomatch h
  |true=>
   induction hb':Nat.beq b q using za with
   |false=>rw[hb,hb']at h;exact nomatch h
   |true=>
    induction hb2:Nat.beq c q using za with
    |false=>rw[hb,hb',hb2]at h;exact nomatch h
    |true=>rw[zD hb,zD hb',zD hb2];rfl
theorem Y0{d:Bool}{f lv ln:Nat}{g:List Nat}{y:Txt}(hE:Ends (qc d::y))(h:fU (qc d) (qc d::y)=false):
  run ⟨.s3 d f 0,lv,ln,g⟩ (qc d::y)=run ⟨.s3 d f 0,lv,ln,g⟩ y:=by
 induction y using zi with
 |nil=>exact absurd rfl (CH hE (by induction d using za <;>decide))
 |cons b y=>
  induction hb:Nat.beq b (qc d)using za with
  |false=>
   have e:run ⟨.s3 d f 0,lv,ln,g⟩ (qc d::b::y)=run (PT ⟨.s3 d f 1,lv,ln,g⟩ d f 1 b) y:=by induction d using za <;>rfl
   rw[e]
   show _=run (PT _ d f 0 b) y
   unfold PT;rw[hb];rfl
  |true=>
   cases zD hb
   induction y using zi with
   |nil=>
    induction hE using jI with
    |inl h=>exact nomatch h
    |inr h=>
     refine zg h fun u hu=>?_
     have:=List.append_inj' (show[qc d]++[qc d]=u++[10]from hu) rfl
     exact absurd (z9 this.2).1 (by induction d using za <;>decide)
   |cons c y=>
    induction hc:Nat.beq c (qc d)using za with
    |true=>
     refine absurd h ?_
     cases zD hc
     induction d using za <;>exact Bool.noConfusion
    |false=>
     have e:∀k,PT ⟨.s3 d f k,lv,ln,g⟩ d f k c=PT ⟨.s3 d f 0,lv,ln,g⟩ d f 0 c:=fun k=>by unfold PT;rw[hc];rfl
     have e1:run ⟨.s3 d f 0,lv,ln,g⟩ (qc d::qc d::c::y)=run (PT ⟨.s3 d f 2,lv,ln,g⟩ d f 2 c) y:=by induction d using za <;>rfl
     have e2:run ⟨.s3 d f 0,lv,ln,g⟩ (qc d::c::y)=run (PT ⟨.s3 d f 1,lv,ln,g⟩ d f 1 c) y:=by induction d using za <;>rfl
     rw[e1,e2,e 2,e 1]
theorem YZ{d:Bool}{f lv ln:Nat}{g:List Nat}{y:Txt}(hE:Ends (qc d::y))(h:fU (qc d) (qc d::y)=false):
  run ⟨.q1 d f,lv,ln,g⟩ y=run ⟨.s1 d f,lv,ln,g⟩ y:=by
 induction y using zi with
 |nil=>exact absurd rfl (CH hE (by induction d using za <;>decide))
 |cons b y=>
  induction hb:Nat.beq b (qc d)using za with
  |false=>
   show run (cond (Nat.beq b (qc d)) _ _) y=run (Vi _ d f b) y
   rw[hb];rfl
  |true=>
   cases zD hb
   induction y using zi with
   |nil=>
    induction hE using jI with
    |inl h=>exact nomatch h
    |inr h=>
     refine zg h fun u hu=>?_
     have:=List.append_inj' (show[qc d]++[qc d]=u++[10]from hu) rfl
     exact absurd (z9 this.2).1 (by induction d using za <;>decide)
   |cons c y=>
    induction hc:Nat.beq c (qc d)using za with
    |true=>
     refine absurd h ?_
     cases zD hc
     induction d using za <;>exact Bool.noConfusion
    |false=>
     have e1:run ⟨.q1 d f,lv,ln,g⟩ (qc d::c::y)=run (bit ⟨.q2 d f,lv,ln,g⟩ c) y:=by induction d using za <;>rfl
     have e2:run ⟨.s1 d f,lv,ln,g⟩ (qc d::c::y)=run (bN ⟨.nm false,lv,ln,g⟩ false c) y:=by induction d using za <;>rfl
     rw[e1,e2]
     show run (cond (Nat.beq c (qc d)) _ _) y=_
     rw[hc];rfl
noncomputable def Gd(g:List Nat)(t:Txt)(i:Nat):Prop:=g.length+(t.length - i) < Az
section
variable {g:List Nat}{t:Txt}{i j:Nat}
theorem Gd.mono(h:Gd g t i)(hj:i≤j):Gd g t j:=jA (zS (Nat.sub_le_sub_left hj _) _) h
theorem Gd.nl(h:Gd g t i)(hi:i < t.length){x:Nat}:Gd (g++[x]) t (i+1):=by
 refine jA ?_ h
 rw[zd,zT]
 exact zS (by show 1+_≤_;lia) _
theorem Gd.len(h:Gd g t i):Nat.blt (gv g).length Az=true:=BE (by rw[C9];exact jA (zA _ _) h)
end
structure We(qs:Txt)(w lv:Nat)(M:Nat→List Nat→A1):Prop where
 x:∀ln g y,run (M ln g) (120::y)=run (M ln g) y
 q:∀ln g c y,Bt ((c::y).take (w+1)) qs=true→w+1≤(c::y).length∧run (M ln g) (c::y)=run ⟨.nm false,lv,ln,g⟩ ((c::y).drop (w+1))
 n:∀ln g y,Bt ((10::y).take (w+1)) qs=false→run (M ln g) (10::y)=cond (Nat.beq w 0) (run ⟨.nm false,lv,ln+1,cond (Nat.beq lv 0) (g++[ln+1]) g⟩ y) (run (M (ln+1) g) y)
 b:∀ln g c y,run (M ln g) (92::c::y)=run (M (cond (Nat.beq c 10) (ln+1) ln) g) y
 o:∀ln g c y,Ends (c::y)→Bt ((c::y).take (w+1)) qs=false→c≠10→c≠92→run (M ln g) (c::y)=run (M ln g) y
theorem lJ{d:Bool}{f lv:Nat}:We [qc d] 0 lv fun ln g=>⟨.s1 d f,lv,ln,g⟩ where
 x:=fun _ _ _=>by induction d using za <;>rfl
 q:=fun ln g c y h=>⟨zN (zH _),by show run (Vi _ d f c) y=_;unfold Vi;rw[←V8 c y,h];rfl⟩
 n:=fun _ _ _ _=>by induction d using za <;>rfl
 b:=fun ln g c y=>by induction d using za <;>(show run (cond (Nat.beq c 10) _ _) y=_;induction Nat.beq c 10 using za <;>rfl)
 o:=fun ln g c y _ h h2 h3=>by show run (Vi _ d f c) y=_;unfold Vi;rw[←V8 c y,h,Be h2,Be h3];rfl
theorem lL{d:Bool}{f lv:Nat}:We [qc d,qc d,qc d] 2 lv fun ln g=>⟨.s3 d f 0,lv,ln,g⟩ where
 x:=fun _ _ _=>by induction d using za <;>rfl
 q:=fun ln g c y h=>by
  have e:=V9 h
  refine⟨by rw[e];exact Jx _ _,?_⟩
  show _=run _ ((c::y).drop 3)
  rw[e];induction d using za <;>rfl
 n:=fun _ _ _ _=>by induction d using za <;>rfl
 b:=fun ln g c y=>by induction d using za <;>(show run (cond (Nat.beq c 10) _ _) y=_;induction Nat.beq c 10 using za <;>rfl)
 o:=fun ln g c y hE h h2 h3=>by
  induction hb:Nat.beq c (qc d)using za with
  |true=>rw[zD hb]at hE h ⊢;exact Y0 hE h
  |false=>show run (PT _ d f 0 c) y=_;unfold PT;rw[hb,Be h2,Be h3];rfl
noncomputable def gC(C:Cfg)(X:A7→St→Prop)(Q:Out→St→Prop)(N:Nat)(σ:St):Prop:=C6 (Ec C X F5) (Ay C X F3) (Ay C X F4) Q N σ
theorem inner{t qs:Txt}{w f lv i0:Nat}{M:Nat→List Nat→A1}(MO:We qs w lv M){F:A1}{sf:List (Option LV)}{h:List Cell}{Q:Out→St→Prop}(hE:Ends t)
  (HQ:∀j ln g ch,i0≤j→j≤t.length→run ⟨.nm false,lv,ln,g⟩ (t.drop j)=F→Gd g t j→Q .next (PA t 0 lv ln g j ch (some (.v (.str qs))) (I f) (I w) sf h))
  (HE:∀ln g ch,F=M ln g→Q .next (PA t (cond (Nat.beq ln (f+1)) 2 3) lv ln g t.length ch (some (.v (.str qs))) (I f) (I w) sf h)) (N:Nat):
  ∀(i ln:Nat) (g:List Nat) (ch:Option LV),i0≤i→i≤t.length→t.length - i≤N→run (M ln g) (t.drop i)=F→Gd g t i→gC C X Q (N+1) (PA t 0 lv ln g i ch (some (.v (.str qs))) (I f) (I w) sf h):=by
 have END:∀{N i ln:Nat} {g:List Nat} {ch:Option LV},t.length≤i→i≤t.length→run (M ln g) (t.drop i)=F→gC C X Q (N+1) (PA t 0 lv ln g i ch (some (.v (.str qs))) (I f) (I w) sf h):=by
  intro N i ln g ch hi hi' hr
  rw[jL hi]at hr
  rw[J9 hi' hi]
  have he:=HE ln g ch hr.symm
  conv=>whnf
  refine AM (HX (zw _)) ?_
  conv=>whnf
  induction hb:Nat.beq ln (f+1)using za with
  |true=>
   rw[hb]at he
   refine Ap ((Qi ln f).trans hb) ?_
   conv=>whnf
   exact he
  |false=>
   rw[hb]at he
   refine AM ((Qi ln f).trans hb) ?_
   conv=>whnf
   exact he
 induction N with
 |zero=>exact fun i ln g ch _ hi hN hr _=>END (Jo (Nat.le_zero.mp hN)) hi hr
 |succ N IH=>
  intro i ln g ch hi0 hi hN hr hg
  by_cases hlt:i < t.length
  ·refine Ab (D6 hlt) fun c hc hd=>?_
   have hEi:=D7 hE i
   rw[hd]at hr hEi
   have hp:=Se hlt w
   rw[hd]at hp
   have K:∀{j ln g ch},i < j→j≤t.length→run (M ln g) (t.drop j)=F→Gd g t i→gC C X Q (N+1) (PA t 0 lv ln g j ch (some (.v (.str qs))) (I f) (I w) sf h):=fun hj hj' hr hg=>
    IH _ _ _ _ (zl hi0 (Jb hj)) hj' (Jp (zO (JK hlt hj) hN)) hr (hg.mono (Jb hj))
   conv=>whnf
   refine Ap (BE hlt) ?_
   conv=>whnf
   refine A9 (Co hc) ?_
   conv=>whnf
   by_cases h1:c=120
   ·refine Ap (Dv h1) ?_
    conv=>whnf
    exact K (zQ i) hlt (by rw[←hr,h1,MO.x]) hg
   ·refine AM (CQ h1) ?_
    conv=>whnf
    induction hq:Bt ((c::t.drop (i+1)).take (w+1)) qs using za with
    |true=>
     refine Ao (MO.q ln g c _ hq) fun hw hr'=>?_
     have hw:i+1+w≤t.length:=by
      rw[←hd,z4]at hw
      rw[zT,jy 1 w];exact j6 hi hw
     refine Ap ((zB (Bt · qs) hp).trans hq) ?_
     conv=>whnf
     refine HQ (i+1+w) ln g _ (zl hi0 (zl (zV i) (zA _ _))) hw ?_ (hg.mono (zl (zV i) (zA _ _)))
     rw[←hr,hr',←hd,ja,jy w 1,zT]
    |false=>
     refine AM ((zB (Bt · qs) hp).trans hq) ?_
     conv=>whnf
     by_cases h2:c=10
     ·rw[h2]at hr hq
      rw[MO.n ln g _ hq]at hr
      refine Ap (Dv h2) ?_
      conv=>whnf
      induction hw:Nat.beq w 0 using za with
      |false=>
       rw[hw]at hr
       refine AM (hw) ?_
       conv=>whnf
       exact K (zQ i) hlt hr hg
      |true=>
       rw[hw]at hr
       refine Ap (hw) ?_
       conv=>whnf
       induction hl:Nat.beq lv 0 using za with
       |true=>
        rw[hl]at hr
        have k:=HQ (i+1) (ln+1) (g++[ln+1]) (some (.v (.str [c]))) (jx hi0) hlt hr (hg.nl hlt)
        unfold PA at k
        rw[EZ]at k
        refine Ap (hl) ?_
        conv=>whnf
        refine Ap (hg.len) ?_
        conv=>whnf
        exact k
       |false=>
        rw[hl]at hr
        refine AM (hl) ?_
        conv=>whnf
        exact HQ (i+1) (ln+1) g _ (jx hi0) hlt hr (hg.mono (zV i))
     ·refine AM (CQ h2) ?_
      conv=>whnf
      by_cases h3:c=92
      ·have hlt2:=Ka (CH hEi h2)
       refine Ab (D6 hlt2) fun c2 hc2 hd2=>?_
       rw[hd2,h3,MO.b]at hr
       refine Ap (Dv h3) ?_
       conv=>whnf
       refine Ap (BE hlt2) ?_
       conv=>whnf
       refine A9 (Co hc2) ?_
       conv=>whnf
       by_cases h4:c2=10
       ·rw[De h4]at hr
        refine Ap (Dv h4) ?_
        conv=>whnf
        exact K (JA (zQ i)) hlt2 hr hg
       ·rw[Be h4]at hr
        refine AM (CQ h4) ?_
        conv=>whnf
        exact K (JA (zQ i)) hlt2 hr hg
      ·refine AM (CQ h3) ?_
       conv=>whnf
       exact K (zQ i) hlt (by rw[←hr,MO.o ln g c _ hEi hq h2 h3]) hg
  ·exact END (Jh hlt) hi hr
end
section
open L04
theorem Vh{x t:Txt}{b i:Nat}(h:i+x.length≤b)(hp:pre? x (t.drop i)=true):EN x t b i=true:=by
 unfold EN;rw[zt h];exact hp
theorem Mv{t:Txt}{b:Nat}:∀(u v:Txt) (a m:Nat),a+m=b+1→a+u.length < b→t.drop a=u++10::v→(∀c∈u,c≠10)→Fm (EN [10] t b) a m=Int.ofNat (a+u.length)
 |[],v,a,0,hm,hb,_,_=>absurd hb (by show¬a+0 < b;lia)
 |[],v,a,m+1,hm,hb,hd,_=>by
  have:EN [10] t b a=true:=Vh hb (by rw[hd];rfl)
  show cond (EN [10] t b a) _ _=_
  rw[this];rfl
 |c::u,v,a,0,hm,hb,_,_=>absurd hb (by rw[zy];lia)
 |c::u,v,a,m+1,hm,hb,hd,hu=>by
  have:EN [10] t b a=false:=by
   unfold EN
   rw[hd]
   show cond _ (cond (Nat.beq 10 c) true false) false=false
   rw[Be (fun e=>hu c (.head _) e.symm)]
   induction Nat.ble (a+1) b using za <;>rfl
  show cond (EN [10] t b a) _ _=_
  rw[this]
  have hd':t.drop (a+1)=u++10::v:=by rw[←ja,hd];rfl
  have:=Mv (t:=t) (b:=b) u v (a+1) m (by lia) (by rw[zy]at hb;lia) hd' (fun c h=>hu c (.tail _ h))
  rw[zy,show a+(u.length+1)=a+1+u.length by lia]
  exact this
theorem Ny:∀{l:Txt},Ends l→l≠[]→∃u v,l=u++10::v∧∀c∈u,c≠10
 |[],_,h=>absurd rfl h
 |c::y,hE,_=>by
  by_cases hc:c=10
  ·exact⟨[],y,by rw[hc];rfl,fun _ h=>nomatch h⟩
  ·refine A6 (Ny (l:=y) (D7 hE 1) (CH hE hc)) fun u v e hu=>?_
   refine⟨c::u,v,by rw[e];rfl,fun c h=>?_⟩
   cases h with
   |head=>exact hc
   |tail _ h=>exact hu c h
theorem R6{lv ln:Nat}{g:List Nat}:∀(u v:Txt),(∀c∈u,c≠10)→run ⟨.cm,lv,ln,g⟩ (u++v)=run ⟨.cm,lv,ln,g⟩ v
 |[],_,_=>rfl
 |c::u,v,h=>by
  show run (cond (Nat.beq c 10) _ _) (u++v)=_
  rw[Be (h c (.head _))]
  exact R6 u v fun c h'=>h c (.tail _ h')
theorem K6{t u v:Txt}{a:Nat}(h:t.drop a=u++v)(hv:v≠[]):a+u.length+v.length=t.length:=by
 have e:=zB List.length h
 rw[z4,zd]at e
 have:0 < v.length:=List.length_pos_iff.mpr hv
 lia
theorem Qs{t u v:Txt}{a:Nat}(h:t.drop a=u++10::v)(hu:∀c∈u,c≠10):Di [10] t a t.length=Int.ofNat (a+u.length):=by
 have hl:=K6 h (JE _ _)
 rw[zy]at hl
 exact Mv u v a _ (by lia) (by lia) h hu
noncomputable def Cw(F:A1):Nat:=match F.md with
 | .nm e=>cond e 1 0
 | .s1 _ f=>cond (Nat.beq F.ln (f+1)) 2 3
 | .s3 _ f _=>cond (Nat.beq F.ln (f+1)) 2 3
 |_=>0
variable {C:Cfg}{X:A7→St→Prop}
noncomputable def fe(C:Cfg)(X:A7→St→Prop)(Q:Out→St→Prop)(N:Nat)(σ:St):Prop:=C6 (Ec C X F8) (Ay C X F6) (Ay C X F7) Q N σ
theorem R8{d:Bool}{lv ln:Nat}{e:Bool}{g:List Nat}{y:Txt}:run ⟨.nm e,lv,ln,g⟩ (qc d::y)=run ⟨.q1 d ln,lv,ln,g⟩ y:=by induction d using za <;>rfl
theorem Yu{e:Bool}{lv ln:Nat}{g:List Nat}{y:Txt}:run ⟨.nm e,lv,ln,g⟩ (10::y)=run ⟨.nm false,lv,ln+1,cond (Nat.beq lv 0) (g++[ln+1]) g⟩ y:=rfl
theorem Yt{e:Bool}{lv ln c:Nat}{g:List Nat}{y:Txt}:run ⟨.nm e,lv,ln,g⟩ (92::c::y)=cond (Nat.beq c 10) (run ⟨.nm true,lv,ln+1,g⟩ y) (run ⟨.nm false,lv,ln,g⟩ y):=by
 show run (cond (Nat.beq c 10) _ _) y=_
 induction Nat.beq c 10 using za <;>rfl
theorem R0{c:Nat}(h:tok c)(h1:c≠120)(h2:c≠10)(h3:c≠40)(h4:c≠41):(∃d,c=qc d)∨c=35∨c=92:=
 h.elim (fun e=>absurd e h1) fun h=>h.elim (fun e=>absurd e h2) fun h=>h.elim (fun e=>absurd e h3) fun h=>h.elim (fun e=>absurd e h4) fun h=>
  h.elim (fun e=>.inl ⟨true,e⟩) fun h=>h.elim (fun e=>.inl ⟨false,e⟩) .inr
theorem outer{t:Txt}{F:A1}{sf:List (Option LV)}{h:List Cell}{Q:Out→St→Prop}(hE:Ends t)(hT:∀c∈t,tok c)
  (HF:∀ch q f w,Q .next (PA t (Cw F) F.lv F.ln F.gd t.length ch q f w sf h)) (N:Nat):
  ∀(i:Nat) (e:Bool) (cont lv ln:Nat) (g:List Nat) (ch q f w:Option LV),i≤t.length→t.length - i≤N→run ⟨.nm e,lv,ln,g⟩ (t.drop i)=F→Gd g t i→
  cont=cond (Nat.beq i t.length) (cond e 1 0) 0→fe C X Q (N+1) (PA t cont lv ln g i ch q f w sf h):=by
 have FIN:∀{N cont lv ln g ch q f w},cont=Cw F→lv=F.lv→ln=F.ln→g=F.gd→fe C X Q (N+1) (PA t cont lv ln g t.length ch q f w sf h):=by
  intro N cont lv ln g ch q f w h1 h2 h3 h4
  rw[h1,h2,h3,h4]
  conv=>whnf
  refine AM (HX (zw _)) ?_
  conv=>whnf
  exact HF ch q f w
 have END:∀{N i:Nat} {e:Bool} {cont lv ln:Nat} {g:List Nat} {ch q f w:Option LV},t.length≤i→i≤t.length→run ⟨.nm e,lv,ln,g⟩ (t.drop i)=F→cont=cond (Nat.beq i t.length) (cond e 1 0) 0→fe C X Q (N+1) (PA t cont lv ln g i ch q f w sf h):=by
  intro N i e cont lv ln g ch q f w hi hi' hr hc
  have e1:=J9 hi' hi
  rw[jL hi]at hr
  rw[De e1]at hc
  rw[e1]
  exact FIN (by rw[hc,←hr];rfl) (zB A1.lv hr) (zB A1.ln hr) (zB A1.gd hr)
 induction N with
 |zero=>exact fun i e cont lv ln g ch q f w hi hN hr _ hc=>END (Jo (Nat.le_zero.mp hN)) hi hr hc
 |succ N IH=>
  intro i e cont lv ln g ch q f w hi hN hr hg hcont
  by_cases hlt:i < t.length
  ·refine Ab (D6 hlt) fun c hc hd=>?_
   have hEi:=D7 hE i
   rw[hd]at hr hEi
   rw[Be (Ja hlt)]at hcont
   rw[show cont=0 from hcont]
   have K:∀{j e cont lv' HI g' gg ch q f w k l},i < j→j≤t.length→run ⟨.nm e,lv',HI,g'⟩ (t.drop j)=F→Gd g' t j→cont=cond (Nat.beq j t.length) (cond e 1 0) 0→k=Int.ofNat j→l=Int.ofNat lv'→gv g'=gg→
     fe C X Q (N+1) ⟨[some (.v (.str t)),I cont,some (.v (.int l)),I HI,some (.loc 0),some (.app 0),some (.v (.int k)),I t.length,ch,q,f,w],[gg],sf,h⟩:=by
    intro j e cont lv' HI g' gg ch q f w k l hj hj' hr hg hct hk hl hgg
    rw[hk,hl,←hgg]
    exact IH j e cont lv' HI g' ch q f w hj' (Jp (zO (JK hlt hj) hN)) hr hg hct
   have c0:∀{j},0=cond (Nat.beq j t.length) (cond false 1 0) 0:=fun{j}=>by induction Nat.beq j t.length using za <;>rfl
   have hg1:=hg.mono (zV i)
   have ne:=fun h=>Ja (Ka (CH hEi h))
   conv=>whnf
   refine Ap (BE hlt) ?_
   conv=>whnf
   refine A9 (Co hc) ?_
   conv=>whnf
   by_cases h1:c=120
   ·rw[h1]at hr
    refine Ap (Dv h1) ?_
    conv=>whnf
    exact K (zQ i) hlt hr hg1 (by rw[Be (ne (by rw[h1];decide))];rfl) rfl rfl rfl
   ·refine AM (CQ h1) ?_
    conv=>whnf
    by_cases h2:c=10
    ·rw[h2,Yu]at hr
     refine Ap (Dv h2) ?_
     conv=>whnf
     induction hl:Nat.beq lv 0 using za with
     |true=>
      rw[hl]at hr
      refine Ap (hl) ?_
      conv=>whnf
      refine Ap (hg.len) ?_
      conv=>whnf
      exact K (zQ i) hlt hr (hg.nl hlt) c0 rfl rfl (EZ ..)
     |false=>
      rw[hl]at hr
      refine AM (hl) ?_
      conv=>whnf
      exact K (zQ i) hlt hr hg1 c0 rfl rfl rfl
    ·refine AM (CQ h2) ?_
     conv=>whnf
     by_cases h3:c=40
     ·rw[h3]at hr
      refine Ap (Dv h3) ?_
      conv=>whnf
      exact K (zQ i) hlt hr hg1 c0 rfl rfl rfl
     ·refine AM (CQ h3) ?_
      conv=>whnf
      by_cases h4:c=41
      ·rw[h4]at hr
       have hr:run ⟨.nm false,lv - 1,ln,g⟩ (t.drop (i+1))=F:=hr
       refine Ap (Dv h4) ?_
       conv=>whnf
       induction hl:Nat.beq lv 0 using za with
       |true=>
        refine AM ((by show(!Nat.beq lv 0)=false;rw[hl];rfl)) ?_
        conv=>whnf
        exact K (zQ i) hlt hr hg1 c0 rfl (by rw[zD hl]) rfl
       |false=>
        refine Ap ((by show(!Nat.beq lv 0)=true;rw[hl];rfl)) ?_
        conv=>whnf
        refine K (zQ i) hlt hr hg1 c0 rfl ?_ rfl
        induction lv using zE with
        |zero=>exact Bool.noConfusion hl
        |succ l=>exact FJ l
      ·refine AM (CQ h4) ?_
       refine(R0 (hT c (jh hc)) h1 h2 h3 h4).elim (fun hq=>?_) fun hr2=>?_
       ·refine hq.elim fun d hcd=>?_
        rw[hcd]at hr hEi
        show Ec C X (.bl false _) _ ((PA t 0 lv ln g (i+1) (some (.v (.str [c]))) q f w sf h))
        refine MN rfl (by rw[hcd];cases d;exact .inr rfl;exact .inl rfl) ?_
        have hp:=Se hlt 2
        rw[hd,hcd]at hp
        rw[hcd]
        conv=>whnf
        induction hq:fU (qc d) (qc d::t.drop (i+1))using za with
        |true=>
         have e3:=V9 hq
         have e4:(qc d::t.drop (i+1)).drop 3=t.drop (i+3):=ja
         have hl3:i+3≤t.length:=by
          have hl:=zB List.length ((hcd▸hd).trans e3)
          rw[z4,zy,zy,zy]at hl
          exact j6 hi (by rw[hl];exact Jx _ _)
         have hr:run ⟨.s3 d ln 0,lv,ln,g⟩ (t.drop (i+3))=F:=by
          rw[←hr,R8,←e4]
          show _=run _ ((qc d::t.drop (i+1)).drop 1)
          rw[e3];induction d using za <;>rfl
         refine Ap ((zB (Bt · [qc d,qc d,qc d]) hp).trans hq) ?_
         conv=>whnf
         refine⟨_,inner (lL (d:=d) (f:=ln) (lv:=lv)) hE (fun j HI g' ch h1 h2 h3 h4=>?_) (fun HI g' ch h1=>?_) t.length (i+3) ln g (some (.v (.str [qc d]))) (zw _) hl3 (jJ _ _) hr (hg.mono (zA _ _))⟩
         ·exact K (zO (Jg (jl 2)) h1) h2 h3 h4 c0 rfl rfl rfl
         ·exact FIN (by rw[h1];rfl) (by rw[h1]) (by rw[h1]) (by rw[h1])
        |false=>
         have hr:run ⟨.s1 d ln,lv,ln,g⟩ (t.drop (i+1))=F:=by rw[←hr,R8,←YZ hEi hq]
         refine AM ((zB (Bt · [qc d,qc d,qc d]) hp).trans hq) ?_
         conv=>whnf
         refine⟨_,inner (lJ (d:=d) (f:=ln) (lv:=lv)) hE (fun j HI g' ch h1 h2 h3 h4=>?_) (fun HI g' ch h1=>?_) t.length (i+1) ln g (some (.v (.str [qc d]))) (zw _) hlt (jJ _ _) hr hg1⟩
         ·exact K h1 h2 h3 h4 c0 rfl rfl rfl
         ·exact FIN (by rw[h1];rfl) (by rw[h1]) (by rw[h1]) (by rw[h1])
       ·have n34:c≠34:=hr2.elim (fun e=>e▸(by decide)) (fun e=>e▸(by decide))
        have n39:c≠39:=hr2.elim (fun e=>e▸(by decide)) (fun e=>e▸(by decide))
        conv=>whnf
        refine AM (CQ n34) ?_
        conv=>whnf
        refine AM (CQ n39) ?_
        conv=>whnf
        refine hr2.elim (fun h5=>?_) fun h5=>?_
        ·refine A6 (Ny (D7 hE (i+1)) (CH hEi h2)) fun u v hu h10=>?_
         have hl:i+1+u.length≤t.length:=zl (zA _ _) (Jc (K6 hu (JE _ _)))
         rw[h5]at hr
         have hr:run ⟨.nm false,lv,ln,g⟩ (t.drop (i+1+u.length))=F:=by
          rw[←hr,←ja,hu,ju]
          exact(R6 u (10::v) h10).symm
         have hf:=Qs hu h10
         refine Ap (Dv h5) ?_
         conv=>whnf
         refine Ap ((by rw[hf];rfl)) ?_
         conv=>whnf
         exact K (zO (zQ i) (zA _ _)) hl hr (hg.mono (zl (zV i) (zA _ _))) c0 hf rfl rfl
        ·have hlt2:=Ka (CH hEi h2)
         refine Ab (D6 hlt2) fun c2 hc2 hd2=>?_
         rw[hd2,h5,Yt]at hr
         have hi2:i < i+1+1:=JA (zQ i)
         have hg2:=hg.mono (Jb hi2)
         refine AM (CQ (by rw[h5];decide)) ?_
         conv=>whnf
         refine Ap (Dv h5) ?_
         conv=>whnf
         refine Ap (BE hlt2) ?_
         conv=>whnf
         refine A9 (Co hc2) ?_
         conv=>whnf
         by_cases h6:c2=10
         ·rw[De h6]at hr
          refine Ap (Dv h6) ?_
          conv=>whnf
          induction h7:Nat.beq (i+1+1) t.length using za with
          |true=>
           refine Ap (h7) ?_
           conv=>whnf
           exact K hi2 hlt2 hr hg2 (by rw[h7];rfl) rfl rfl rfl
          |false=>
           refine AM (h7) ?_
           conv=>whnf
           exact K hi2 hlt2 hr hg2 (by rw[h7];rfl) rfl rfl rfl
         ·rw[Be h6]at hr
          refine AM (CQ h6) ?_
          conv=>whnf
          exact K hi2 hlt2 hr hg2 c0 rfl rfl rfl
  ·exact END (Jh hlt) hi hr hcont
end
section
open L04
noncomputable def FQ:A1:=⟨.nm false,0,0,[0]⟩
noncomputable def fin(t:Txt):A1:=run FQ (t.map CY)
noncomputable def BX(F:A1):Nat:=match F.md with
 | .nm e=>cond (Nat.beq F.lv 0) (cond e 1 0) 4
 | .s1 _ f=>cond (Nat.beq F.ln (f+1)) 2 3
 | .s3 _ f _=>cond (Nat.beq F.ln (f+1)) 2 3
 |_=>5
noncomputable def Vr(F:A1):List Nat:=cond (Nat.beq (BX F) 0) F.gd (F.gd++[F.ln])
structure Zl(F:A1):Prop where
 raw:(Cw F=BX F∧(BX F=2∨BX F=3∨F.lv=0))∨(BX F=4∧F.lv≠0∧Cw F≠2∧Cw F≠3)
 gd:∃g k,F.gd=g++[k]∧((BX F=0∧k=F.ln)∨(BX F≠0∧k < F.ln))
noncomputable def Oo(a:A1):Prop:=∃g k,a.gd=g++[k]∧k≤a.ln
theorem Xn{a:A1}{m:Md}(h:Oo a):Oo (a.nl m):=by
 refine A6 h fun g k e hk=>?_
 unfold A1.nl Oo
 induction Nat.beq a.lv 0 using za with
 |true=>exact⟨a.gd,a.ln+1,rfl,zw _⟩
 |false=>exact⟨g,k,e,jx hk⟩
theorem Xm{a:A1}{m:Md}(h:Oo a):Oo (a.HI m):=by
 refine A6 h fun g k e hk=>?_
 exact⟨g,k,e,jx hk⟩
theorem TQ{a:A1}(h:Oo a)(c:Nat):Oo (bit a c):=PY a c (fun _ _=>h) (fun _=>Xn h) fun _=>Xm h
theorem NP:∀{t:Txt} {a:A1},Oo a→Oo (run a t)
 |[],_,h=>h
 |c::y,_,h=>NP (t:=y) (TQ h c)
theorem KU{a:A1}(h:Oo a):Zl (a.nl (.nm false)):=by
 refine A6 h fun g k e hk=>?_
 obtain⟨m,lv,ln,gd⟩:=a
 induction lv using zE with
 |zero=>exact⟨.inl ⟨rfl,.inr (.inr rfl)⟩,gd,ln+1,rfl,.inl ⟨rfl,rfl⟩⟩
 |succ l=>exact⟨.inr ⟨rfl,jO _,(show(0:Nat)≠2 by decide),(show(0:Nat)≠3 by decide)⟩,g,k,e,.inr ⟨(show(4:Nat)≠0 by decide),jK hk⟩⟩
theorem Zx{a:A1}(h:Oo a):Zl (a.HI (.nm true)):=by
 refine A6 h fun g k e hk=>?_
 obtain⟨m,lv,ln,gd⟩:=a
 induction lv using zE with
 |zero=>exact⟨.inl ⟨rfl,.inr (.inr rfl)⟩,g,k,e,.inr ⟨(show(1:Nat)≠0 by decide),jK hk⟩⟩
 |succ l=>exact⟨.inr ⟨rfl,jO _,(show(1:Nat)≠2 by decide),(show(1:Nat)≠3 by decide)⟩,g,k,e,.inr ⟨(show(4:Nat)≠0 by decide),jK hk⟩⟩
theorem Wm{a:A1}(h:Oo a){m:Md}(hm:(∃d f,m=.s1 d f)∨(∃d f,m=.s3 d f 0)):Zl (a.HI m):=by
 refine A6 h fun g k e hk=>?_
 have e2:BX (a.HI m)=Cw (a.HI m)∧(Cw (a.HI m)=2∨Cw (a.HI m)=3):=by
  obtain⟨d,f,rfl⟩ |⟨d,f,rfl⟩:=hm
  ·refine⟨rfl,?_⟩
   show(cond (Nat.beq (a.ln+1) (f+1)) 2 3:Nat)=2∨(cond (Nat.beq (a.ln+1) (f+1)) 2 3:Nat)=3
   induction Nat.beq (a.ln+1) (f+1)using za <;>simp
  ·refine⟨rfl,?_⟩
   show(cond (Nat.beq (a.ln+1) (f+1)) 2 3:Nat)=2∨(cond (Nat.beq (a.ln+1) (f+1)) 2 3:Nat)=3
   induction Nat.beq (a.ln+1) (f+1)using za <;>simp
 refine⟨.inl ⟨e2.1.symm,?_⟩,g,k,e,.inr ⟨?_,jK hk⟩⟩
 ·rw[e2.1];lia
 ·rw[e2.1];lia
theorem Wj{a:A1}(h:Oo a):Zl (bit a 10):=by
 obtain⟨m,lv,ln,gd⟩:=a
 induction m using Md.casesOn with
 |nm e=>exact KU h
 |esc=>exact Zx h
 |cm=>exact KU h
 |q1 d f=>induction d using za <;>exact KU h
 |q2 d f=>induction d using za <;>exact KU h
 |s1 d f=>induction d using za <;>exact KU h
 |e1 d f=>exact Wm h (.inl ⟨d,f,rfl⟩)
 |s3 d f k=>induction d using za <;>exact Wm h (.inr ⟨_,f,rfl⟩)
 |e3 d f=>exact Wm h (.inr ⟨d,f,rfl⟩)
theorem Wl{t:Txt}(h:Ends t):Zl (fin t):=by
 induction h using jI with
 |inl h=>subst h;exact⟨.inl ⟨rfl,.inr (.inr rfl)⟩,[],0,rfl,.inl ⟨rfl,rfl⟩⟩
 |inr h=>
  refine zg h ?_;clear h;intro u hq1;subst hq1
  unfold fin
  rw[jm,Gz]
  exact Wj (NP ⟨[],0,rfl,zw _⟩)
section
variable {rx:Rx}
theorem Pc{t:Txt}(h:AC 128 t=true):Bw rx .squeeze (.str t)=some (.str (t.map CY)):=by
 show cond (AC 128 t) _ _=_
 rw[h];rfl
theorem G9{t:Txt}{o:Nat}{old new:Txt}(h:t.length≤1000000)(hn:new.length≤old.length+1):Dr rx .replace (.str t) (.str (o::old)) (.str new)=some (.str (AA (o::old) new 0 t)):=by
 show cond (Nat.ble new.length (old.length+1) && Nat.ble t.length 1000000) _ _=_
 rw[zt h,zt hn];rfl
end
theorem S3(g:List Nat)(k:Nat):IC (gv (g++[k])) (Int.negSucc 0)=some (.int (.ofNat k)):=by
 rw[EZ]
 show cond (Nat.blt 0 (gv g++[Val.int (.ofNat k)]).length) ((gv g++[Val.int (.ofNat k)])[(gv g++[Val.int (.ofNat k)]).length - (0+1)]?) none=_
 rw[zd]
 show(gv g++[Val.int (.ofNat k)])[(gv g).length]? =_
 rw[zU (zw _),jW];rfl
noncomputable abbrev fld(iw tw:Nat)(t:Txt)(l:Nat)(gl co ss se lc lo br:Option Val):List (Option Val):=
 [some (.int (.ofNat iw)),some (.int (.ofNat tw)),some (.str t),some (.int (.ofNat l)),gl,co,ss,se,lc,lo,br]
noncomputable def PQ(rx:Rx):Ne:=⟨rx,fns,0,11⟩
theorem B4(x:Option Val)(r:List (Option Val)):BD (x::r)=x.map LV.v::BD r:=by induction x using zh <;>rfl
theorem Cg(o:List (List Val)):∀fs:List (Option Val),fz o (BD fs)=some fs
 |[]=>rfl
 |none::r=>by
  show(match fz o (BD r)with |some l=>some (none::l) |none=>none)=_
  rw[Cg o r]
 |some x::r=>by
  show(match look o (.v x),fz o (BD r)with |some y,some l=>some (some y::l) |_,_=>none)=_
  rw[Cg o r];rfl
theorem B6:∀fs:List (Option Val),Gs (BD fs)=some fs
 |[]=>rfl
 |none::r=>by
  show(match Gs (BD r)with |some l=>some (none::l) |none=>none)=_
  rw[B6 r]
 |some x::r=>by
  show(match Gs (BD r)with |some l=>some (some x::l) |none=>none)=_
  rw[B6 r]
theorem Cy{o:List (List Val)}{lv:LV}{y:Val}{r:List (Option LV)}{l:List (Option Val)}(h1:look o lv=some y)(h2:fz o r=some l):fz o (some lv::r)=some (some y::l):=by
 show(match look o lv,fz o r with |some y,some l=>some (some y::l) |_,_=>none)=_
 rw[h1,h2]
theorem KG{rx:Rx}{d:Nat}{iw tw:Nat}{t:Txt}{l:Nat}{gl co ss se lc lo br:Option Val}{h:List Cell}{K:Val→List (Option Val)→List Cell→Prop}{X:A7→List (Option Val)→List Cell→Prop}
  (hl:l=1∨l=2) (hK:K .none (fld iw tw t l gl co ss se lc lo br) h):AD (PQ rx) (d+1) 2 (fld iw tw t l gl co ss se lc lo br) [] h K X:=by
 obtain rfl |rfl:=hl
 ·conv=>whnf
  refine A9 (Cg _ (fld iw tw t 1 gl co ss se lc lo br)) ?_
  conv=>whnf
  exact hK
 ·conv=>whnf
  refine A9 (Cg _ (fld iw tw t 2 gl co ss se lc lo br)) ?_
  conv=>whnf
  exact hK
theorem Z0{iw tw:Nat}{t:Txt}{l l':Nat}{gl co ss se lc lo br:Option Val}{g:List Val}{c:Nat}:
  fz [g] (Bg (Bg (Bg (BD (fld iw tw t l gl co ss se lc lo br)) 3 (.v (.int (.ofNat l')))) 4 (.loc 0)) 5 (.v (.int (.ofNat c))))=some (fld iw tw t l' (some (.seq false g)) (some (.int (.ofNat c))) ss se lc lo br):=by
 show fz [g] (some (.v (.int (.ofNat iw)))::some (.v (.int (.ofNat tw)))::some (.v (.str t))::some (.v (.int (.ofNat l')))::Bg (Bg (BD [gl,co,ss,se,lc,lo,br]) 0 (.loc 0)) 1 (.v (.int (.ofNat c))))=_
 rw[B4 gl,B4 co]
 exact Cy rfl (Cy rfl (Cy rfl (Cy rfl (Cy rfl (Cy rfl (Cg _ _))))))
noncomputable def LZ:Ss:=.cons (.sasg 5 (.loc 1)) (.cons (.asrt (.p2 .eq (.p2 .eq (.loc 1) (.lit (.int (.ofNat 0)))) (.p2 .eq (.p2 .idx (.loc 4) (.p1 .neg (.lit (.int (.ofNat 1))))) (.loc 3)))) (.cons (.if_ (.p2 .ne (.p2 .idx (.loc 4) (.p1 .neg (.lit (.int (.ofNat 1))))) (.loc 3)) (.cons (.ex (.push 5 (.loc 3))) .nil) (.nil)) .nil))
theorem DR{rx:Rx}{gd g:List Nat}{k:Nat}(h:gd=g++[k]):AG rx .idx (.seq false (gv gd)) (.int (Int.negSucc 0))=some (.int (.ofNat k)):=by
 subst h;exact S3 g k
theorem MY{C:Cfg}{X:A7→St→Prop}{iw tw:Nat}{t s:Txt}{gl co ss se lc lo br:Option Val}{h:List Cell}{K:Val→List (Option Val)→List Cell→Prop}
  {lv ln i c k:Nat} {gd g:List Nat} {ch q f w:Option LV} (hg:gd=g++[k]) (hc:(c=0∧k=ln)∨(c≠0∧k < ln)) (hl:gd.length < Az)
  (hK:K .none (fld iw tw t 1 (some (.seq false (gv (cond (Nat.beq c 0) gd (gd++[ln]))))) (some (.int (.ofNat c))) ss se lc lo br) h):
  Ay C X LZ (DC K) (PA s c lv ln gd i ch q f w (Bg (Bg (BD (fld iw tw t 0 gl co ss se lc lo br)) 3 (.v (.int (.ofNat 1)))) 4 (.loc 0)) h):=by
 obtain⟨rfl,rfl⟩ |⟨h1,h2⟩:=hc
 ·conv=>whnf
  refine A9 (DR hg) ?_
  conv=>whnf
  refine Ap (De rfl) ?_
  conv=>whnf
  refine A9 (DR hg) ?_
  conv=>whnf
  refine AM ((by show(!Nat.beq k k)=false;rw[De rfl];rfl)) ?_
  conv=>whnf
  refine A9 (Z0 (l':=1) (c:=0)) ?_
  conv=>whnf
  exact hK
 ·rw[Be h1]at hK
  have hK:K .none (fld iw tw t 1 (some (.seq false (gv (gd++[ln])))) (some (.int (.ofNat c))) ss se lc lo br) h:=hK
  rw[EZ]at hK
  conv=>whnf
  refine A9 (DR hg) ?_
  conv=>whnf
  refine Ap ((by show cond (Nat.beq c 0) (Nat.beq k ln) (!(Nat.beq k ln))=true;rw[Be h1,Be (by lia)];rfl)) ?_
  conv=>whnf
  refine A9 (DR hg) ?_
  conv=>whnf
  refine Ap ((by show(!Nat.beq k ln)=true;rw[Be (by lia)];rfl)) ?_
  conv=>whnf
  refine Ap (BE (by rw[C9];exact hl)) ?_
  conv=>whnf
  refine A9 (Z0 (l':=1) (c:=c)) ?_
  conv=>whnf
  exact hK
theorem W5(a:A1)(c:Nat):(bit a c).gd.length≤a.gd.length+1:=PY (P:=fun b=>b.gd.length≤a.gd.length+1) a c (fun _ _=>zV _) (fun _=>by
  unfold A1.nl
  induction Nat.beq a.lv 0 using za with
  |true=>exact Jc zd
  |false=>exact zV _) fun _=>zV _
theorem Qx:∀(t:Txt) (a:A1),(run a t).gd.length≤a.gd.length+t.length
 |[],_=>zw _
 |c::y,a=>by
  have h1:=Qx y (bit a c)
  have h2:=W5 a c
  rw[zy]
  show(run (bit a c) y).gd.length≤_
  lia
theorem MZ{rx:Rx}{d:Nat}{iw tw:Nat}{t:Txt}{gl co ss se lc lo br:Option Val}{h:List Cell}{K:Val→List (Option Val)→List Cell→Prop}{X:A7→List (Option Val)→List Cell→Prop}
  (hE:Ends t) (h8:AC 128 t=true) (hl:t.length≤100000)
  (hK:K .none (fld iw tw t 1 (some (.seq false (gv (Vr (fin t))))) (some (.int (.ofNat (BX (fin t))))) ss se lc lo br) h):AD (PQ rx) (d+1) 2 (fld iw tw t 0 gl co ss se lc lo br) [] h K X:=by
 have l0:(t.map CY).length≤1000000:=by rw[z3];lia
 have l1:=zl (Bs (o:=120) (old:=[120,120,120,120,120,120,120]) (new:=[120]) (by decide) (t.map CY) 0) l0
 have l2:=zl (Bs (o:=120) (old:=[120,120,120]) (new:=[120]) (by decide) _ 0) l1
 have l3:=zl (Bs (o:=120) (old:=[120]) (new:=[120]) (by decide) _ 0) l2
 have l4:=zl (Bs (o:=120) (old:=[120]) (new:=[120]) (by decide) _ 0) l3
 have a1:=Wl hE
 have hr:run FQ ((sq t).drop 0)=fin t:=Yv FQ t
 have hs:=Xj t
 refine A6 a1.gd fun g k hg hc=>?_
 have hgl:(fin t).gd.length < Az:=by
  have:=Qx (t.map CY) FQ
  rw[z3]at this
  show(run FQ (t.map CY)).gd.length < 16777216
  have e:FQ.gd.length=1:=rfl
  lia
 have fin':=fun ch q f w=>MY (C:=⟨rx,AD (PQ rx) d,0,11⟩) (X:=DQ X) (s:=sq t) (i:=(sq t).length) (lv:=(fin t).lv) (gl:=gl) (co:=co) (ch:=ch) (q:=q) (f:=f) (w:=w) hg hc hgl hK
 conv=>whnf
 refine A9 (Pc h8) ?_
 conv=>whnf
 refine A9 (G9 l0 (by decide)) ?_
 conv=>whnf
 refine A9 (G9 l1 (by decide)) ?_
 conv=>whnf
 refine A9 (G9 l2 (by decide)) ?_
 conv=>whnf
 refine A9 (G9 l3 (by decide)) ?_
 conv=>whnf
 refine A9 (G9 l4 (by decide)) ?_
 conv=>whnf
 refine⟨_,outer (t:=sq t) (F:=fin t) (Tg hE) (YX t) (fun ch q f w=>?_) (sq t).length 0 false 0 0 0 [0] none none none none (zH _) (zw _) hr (by show 1+_ < 16777216;lia) (by induction Nat.beq 0 (sq t).length using za <;>rfl)⟩
 have fin'':=fin' ch q f w
 have hraw:=a1.raw
 clear a1 hc hg hK fin'
 generalize BX (fin t)=c at*
 generalize Cw (fin t)=r at*
 generalize(fin t).lv=lv at*
 have nt:∀{a b:Nat},a≠b→(!(Nat.beq a b))=true:=fun h=>by rw[Be h];rfl
 obtain⟨rfl,h2 |h3 |h0⟩ |⟨rfl,hlv,n2,n3⟩:=hraw
 ·subst h2
  conv=>whnf
  exact fin''
 ·subst h3
  conv=>whnf
  exact fin''
 ·subst h0
  by_cases n2:r=2
  ·subst n2
   conv=>whnf
   exact fin''
  ·by_cases n3:r=3
   ·subst n3
    conv=>whnf
    exact fin''
   ·conv=>whnf
    refine Ap (nt n2) ?_
    conv=>whnf
    refine Ap (nt n3) ?_
    conv=>whnf
    exact fin''
 ·induction lv using zE with
  |zero=>exact absurd rfl hlv
  |succ l=>
   conv=>whnf
   refine Ap (nt n2) ?_
   conv=>whnf
   refine Ap (nt n3) ?_
   conv=>whnf
   exact fin''
end
section
open L04
theorem Lr{p:Nat→Bool}:∀(n k:Nat) (r:Int),(∀i,k≤i→i < k+n→p i=false)→C5 p k n r=r
 |0,_,_,_=>rfl
 |n+1,k,r,h=>by
  show C5 p (k+1) n (cond (p k) _ r)=r
  rw[h k (zw _) (by lia)]
  exact Lr n (k+1) r fun i h1 h2=>h i (by lia) (by lia)
theorem Fq{p:Nat→Bool}:∀(n m k:Nat) (r:Int),C5 p k (n+m) r=C5 p (k+n) m (C5 p k n r)
 |0,m,k,r=>by rw[jD];rfl
 |n+1,m,k,r=>by
  rw[show n+1+m=(n+m)+1 by lia,show k+(n+1)=(k+1)+n by lia]
  exact Fq n m (k+1) _
theorem Nn{t u:Txt}{a i b:Nat}(hi:a≤i)(hi2:i < a+u.length)(h:t.drop a=u++t.drop (a+u.length))(hu:∀c∈u,c≠10):EN [10] t b i=false:=by
 have e:t.drop i=u.drop (i - a)++t.drop (a+u.length):=by
  have:t.drop i=(t.drop a).drop (i - a):=by rw[ja];congr 1;lia
  rw[this,h,jR (by lia)]
 have hlt:i - a < u.length:=by lia
 rw[j7 hlt]at e
 unfold EN
 rw[e]
 show cond _ (cond (Nat.beq 10 _) true false) false=false
 rw[Be (fun e=>hu _ (List.getElem_mem hlt) e.symm)]
 induction Nat.ble (i+1) b using za <;>rfl
theorem MS{t A u v:Txt}(hA:Ends A)(ht:t=A++(u++v))(hu:∀c∈u,c≠10):Ck [10] t 0 (A.length+u.length)+Int.ofNat 1=Int.ofNat A.length:=by
 have hd:t.drop A.length=u++t.drop (A.length+u.length):=by
  rw[←ja,ht,ju,ju]
 have hn:∀r,C5 (EN [10] t (A.length+u.length)) A.length (u.length+1) r=r:=fun r=>by
  refine Lr _ _ _ fun i h1 h2=>?_
  by_cases h3:i < A.length+u.length
  ·exact Nn h1 h3 hd hu
  ·unfold EN
   rw[show Nat.ble (i+[10].length) (A.length+u.length)=false from by
    induction e:Nat.ble (i+[10].length) (A.length+u.length)using za with
    |false=>rfl
    |true=>exact absurd (zp e) (by show¬i+1≤_;lia)]
   rfl
 show C5 (EN [10] t (A.length+u.length)) 0 (A.length+u.length+1 - 0) (-1)+_=_
 rw[show A.length+u.length+1 - 0=A.length+(u.length+1) by lia,Fq,jD,hn]
 induction hA using jI with
 |inl h=>subst h;rfl
 |inr h=>
  refine zg h ?_;clear h;intro B hq1;subst hq1
  have hat:EN [10] t ((B++[10]).length+u.length) B.length=true:=by
   refine Vh (by rw[zd];show B.length+1≤_;exact zA _ _) ?_
   rw[ht,zk,ju];rfl
  have hl:List.length (B++[10])=B.length+1:=zd
  rw[hl]at hat ⊢
  rw[Fq,jD]
  show cond (EN [10] t (B.length+1+u.length) B.length) _ _+_=_
  rw[hat];rfl
inductive Ln:Nat→Txt→Prop
 |nil:Ln 0 []
 |snoc {m:Nat} {c u:Txt}:Ln m c→(∀x∈u,x≠10)→Ln (m+1) (c++(u++[10]))
theorem Ln.ends{m:Nat}{c:Txt}(h:Ln m c):Ends c:=by
 induction h using Ln.casesOn with
 |nil=>exact .inl rfl
 |snoc h hu=>exact .inr ⟨_,(zk ..).symm⟩
theorem ends_app{a b:Txt}(h1:Ends a)(h2:Ends b):Ends (a++b):=by
 induction h2 using jI with
 |inl h=>subst h;rw[zL];exact h1
 |inr h=>refine zg h ?_;clear h;intro u hq1;subst hq1;exact .inr ⟨a++u,(zk ..).symm⟩
theorem Ln.pos{m:Nat}{c:Txt}(h:Ln (m+1) c):0 < c.length:=by
 cases h with
 |snoc h hu=>rw[zd,zd];show 0 < _+(_+1);lia
section
variable {C:Cfg}{X:A7→St→Prop}
noncomputable def VX(i p:Nat)(t:Txt)(gl:List Nat)(q n:Option LV)(sf:List (Option LV))(h:List Cell):St:=
 ⟨[I i,I p,none,none,none,none,some (.v (.str t)),some (.v (.seq false (gv gl))),q,n,none,none,none],[],sf,h⟩
theorem back{t A:Txt}{i:Nat}{gl:List Nat}{q:Option LV}{sf:List (Option LV)}{h:List Cell}{Q:Out→St→Prop}(hA:Ends A)
  (hQ:∀n,Q .next (VX i A.length t gl q n sf h)):∀(xs:List Val) (c v:Txt) (n:Option LV),Ln xs.length c→t=A++(c++v)→
  forL (BU [.loc 9]) (Ay C X F9) Q xs (VX i (A++c).length t gl q n sf h):=fun xs=>by
 induction xs with
 |nil=>
  intro c v n hc ht
  cases hc
  rw[zL]
  exact hQ n
 |cons x xs ih=>
  intro c v n hc ht
  cases hc with
  |@snoc m c' u hc hu=>
   have e:t=(A++c')++(u++10::v):=by rw[ht];simp only[zk,jH,j8]
   have r:=MS (ends_app hA hc.ends) e hu
   have k:=ih c' (u++10::v) (some (.v x)) hc (by rw[e,zk])
   unfold VX I at k
   rw[←r]at k
   have e2:Int.ofNat (A++(c'++(u++[10]))).length - Int.ofNat 1=Int.ofNat ((A++c').length+u.length):=by
    rw[←zk,←zk,zd,zd]
    exact FJ _
   have e3:clip t.length (Int.ofNat (A++(c'++(u++[10]))).length - Int.ofNat 1)=(A++c').length+u.length:=by
    rw[e2,e]
    show min _ _=_
    simp only[zd,zy]
    lia
   rw[←e3]at k
   exact k
theorem nz{a:Nat}(h:a≠0):(!IT (Int.ofNat a) 0)=true:=by
 show(!Nat.beq a 0)=true
 rw[Be h];rfl
theorem QD{gl:List Nat}{j x:Nat}(h:gl[j]? =some x):(gv gl)[j]? =some (.int (.ofNat x)):=by
 unfold gv;rw[Je,h];rfl
theorem Qy{rx:Rx}{gl:List Nat}{j x:Nat}(h:gl[j]? =some x):AG rx .idx (.seq false (gv gl)) (.int (.ofNat j))=some (.int (.ofNat x)):=QD h
theorem NB{rx:Rx}{gl:List Nat}{j x:Nat}(h:gl[j]? =some x):AG rx .idx (.seq false (gv gl)) (.int (Int.ofNat (j+1) - Int.ofNat 1))=some (.int (.ofNat x)):=by
 rw[FJ];exact QD h
theorem CN:∀(n a:Nat),(BG a n).length=n
 |0,_=>rfl
 |n+1,a=>zB (· +1) (CN n (a+1))
theorem QQ{rx:Rx}{t:Txt}{p:Nat}{o:Option Nat}(h:rx.junk t p=o)(h1:p≤t.length)(h2:t.length≤100000):AG rx .junk (.str t) (.int (.ofNat p))=CL p o:=by
 show cond (Nat.ble p t.length && Nat.ble t.length 100000) (CL p (rx.junk t p)) none=_
 rw[zt h1,zt h2,h];rfl
inductive Jn(rx:Rx)(t B:Txt):Nat→Txt→Prop
 |nil:Jn rx t B 0 B
 |snoc {k e:Nat} {D u:Txt}:Jn rx t B k D→(∀x∈u,x≠10)→rx.junk t D.length=some e→Jn rx t B (k+1) (D++(u++[10]))
theorem Jn.ends{rx:Rx}{t B:Txt}{k:Nat}{D:Txt}(h:Jn rx t B k D)(hB:Ends B):Ends D:=by
 induction h using Jn.casesOn with
 |nil=>exact hB
 |snoc h hu he=>exact .inr ⟨_,(zk ..).symm⟩
theorem Jn.len{rx:Rx}{t B:Txt}{k:Nat}{D:Txt}(h:Jn rx t B k D):B.length≤D.length:=by
 induction h with
 |nil=>exact zw _
 |snoc h hu he ih=>rw[zd];exact zl ih (zA _ _)
variable {rx:Rx}{cl:EI}{ini nf:Nat}
theorem walk{t A c:Txt}{g0 a m:Nat}{gl:List Nat}{sf:List (Option LV)}{h:List Cell}{Q:Out→St→Prop}(hA:Ends A)(hc:Ln (m+1) c)(h0:gl[g0]? =some a)(hlt:t.length≤100000)
  (hj:rx.junk t A.length=none) (hQ:∀n,Q .next (VX (g0+1) A.length t gl (I (A++c).length) n sf h)) {k:Nat} {D:Txt} (hJ:Jn rx t (A++c) k D):
  ∀(v:Txt) (q n:Option LV),t=D++v→(∀j,j≤k→gl[g0+1+j]? =some (a+(m+1)+j))→a+(m+1)+k < Az→
  C6 (Ec ⟨rx,cl,ini,nf⟩ X Gj) (Ay ⟨rx,cl,ini,nf⟩ X Gh) (Ay ⟨rx,cl,ini,nf⟩ X Gi) Q (k+1) (VX (g0+1+k) D.length t gl q n sf h):=by
 induction hJ with
 |nil=>
  intro v q n ht hg hb
  have hp:(A++c).length≠0:=by have:=hc.pos;rw[zd];lia
  have hl:(BG a (a+(m+1) - a)).length=m+1:=by rw[CN];lia
  have hle:A.length≤t.length:=by rw[ht,zd,zd];lia
  conv=>whnf
  refine Ap (nz hp) ?_
  conv=>whnf
  refine A9 (NB h0) ?_
  conv=>whnf
  refine A9 (Qy (hg 0 (zw _))) ?_
  conv=>whnf
  refine Ap (by rw[BE (show a+(m+1)+0 < Az by lia),BE (show a < Az by lia)];rfl) ?_
  refine back (i:=g0+1) hA (fun n'=>?_) (BG a (a+(m+1) - a)) c v n (by rw[hl];exact hc) (by rw[ht,zk])
  conv=>whnf
  refine A9 (QQ hj hle hlt) ?_
  conv=>whnf
  exact hQ n'
 |@snoc k e D u hD hu he ih=>
  intro v q n ht hg hb
  have hl:(BG (a+(m+1)+k) (a+(m+1)+(k+1) - (a+(m+1)+k))).length=1:=by rw[CN];lia
  have hle:D.length≤t.length:=by rw[ht,zd,zd];lia
  have hp:(D++(u++[10])).length≠0:=by rw[zd,zd];show _+(_+1)≠0;lia
  conv=>whnf
  refine Ap (nz hp) ?_
  conv=>whnf
  refine A9 (NB (hg k (by lia))) ?_
  conv=>whnf
  refine A9 (Qy (hg (k+1) (zw _))) ?_
  conv=>whnf
  refine Ap (by rw[BE (show a+(m+1)+(k+1) < Az by lia),BE (show a+(m+1)+k < Az by lia)];rfl) ?_
  refine back (i:=g0+1+(k+1)) (hD.ends (ends_app hA hc.ends)) (fun n'=>?_) _ (u++[10]) v n (by rw[hl];exact(Ln.nil.snoc hu)) (by rw[ht,zk])
  have k':=ih (u++10::v) (I (D++(u++[10])).length) n' (by rw[ht];simp only[zk,jH,j8]) (fun j h=>hg j (by lia)) (by lia)
  unfold VX I at k'
  rw[←FJ (g0+1+k)]at k'
  conv=>whnf
  refine A9 (QQ he hle hlt) ?_
  conv=>whnf
  exact k'
end
end
section
open L04 Rxm
structure Dc(rx:Rx):Prop where
 junk:rx.junk=E0
 bs:rx.bs=S6
 chew:rx.chew=ER
 strre:rx.strre=KE
structure A2 where
 lc:Txt
 sk:List Nat
 br:List (Nat×Nat)
noncomputable def bl:List Nat→List Nat
 |[]=>[]
 |[_]=>[]
 |x::y::r=>x::bl (y::r)
noncomputable def wh(c:Nat):Bool:=cin c [32,9,10]
noncomputable def A2.Sb(s:A2)(c:Nat):A2:=cond (wh c) s ⟨[c],s.sk,s.br⟩
noncomputable def an:Nat→Txt→Nat→A2→Option A2
 |0,[],_,s=>some s
 |_+1,[],_,_=>none
 |k+1,_::y,p,s=>an k y (p+1) s
 |0,c::y,p,s=>
  cond (cin c [40,91,123]) (an 0 y (p+1) ⟨[c],s.sk++[p],s.br++[(p,s.sk.length+1)]⟩)
  (cond (cin c [41,93,125]) (an 0 y (p+1) ⟨[c],bl s.sk,s.br++[(p+1,(bl s.sk).length)]⟩)
  (cond (cin c [34,39]) (match Db (c::y) p with |some e=>an (e - (p+1)) y (p+1) ⟨[c],s.sk,s.br++[(p,s.sk.length+1),(e,s.sk.length)]⟩ |none=>none)
  (cond (cin c [35]) (cond (Nat.blt (Af Ey y) y.length) (an (Af Ey y+1) y (p+1) ⟨s.lc,s.sk,s.br++[(p,s.sk.length+1),(p+1+Af Ey y+1,s.sk.length)]⟩) none)
  (cond (cin c [92]) (match y with |[]=>none |d::y=>an 0 y (p+2) ⟨cond (Nat.beq d 10) s.lc [92,d],s.sk,s.br⟩)
  (an 0 y (p+1) (s.Sb c))))))
termination_by structural _ t=>t
theorem Me{c:Nat}{y:Txt}{p:Nat}{s:A2}:an 0 (c::y) p s=
  cond (cin c [40,91,123]) (an 0 y (p+1) ⟨[c],s.sk++[p],s.br++[(p,s.sk.length+1)]⟩)
  (cond (cin c [41,93,125]) (an 0 y (p+1) ⟨[c],bl s.sk,s.br++[(p+1,(bl s.sk).length)]⟩)
  (cond (cin c [34,39]) (match Db (c::y) p with |some e=>an (e - (p+1)) y (p+1) ⟨[c],s.sk,s.br++[(p,s.sk.length+1),(e,s.sk.length)]⟩ |none=>none)
  (cond (cin c [35]) (cond (Nat.blt (Af Ey y) y.length) (an (Af Ey y+1) y (p+1) ⟨s.lc,s.sk,s.br++[(p,s.sk.length+1),(p+1+Af Ey y+1,s.sk.length)]⟩) none)
  (cond (cin c [92]) (match y with |[]=>none |d::y=>an 0 y (p+2) ⟨cond (Nat.beq d 10) s.lc [92,d],s.sk,s.br⟩)
  (an 0 y (p+1) (s.Sb c)))))):=by induction y using zi <;>rfl
section
variable {c:Nat}{y:Txt}{p:Nat}{s:A2}{r:Option A2}
theorem k7(h:cin c [40,91,123]=true)(ha:an 0 (c::y) p s=r):an 0 y (p+1) ⟨[c],s.sk++[p],s.br++[(p,s.sk.length+1)]⟩=r:=by
 rw[←ha,Me,h];rfl
theorem k8(h1:cin c [40,91,123]=false)(h:cin c [41,93,125]=true)(ha:an 0 (c::y) p s=r):an 0 y (p+1) ⟨[c],bl s.sk,s.br++[(p+1,(bl s.sk).length)]⟩=r:=by
 rw[←ha,Me,h1,h];rfl
theorem k9{s':A2}(hc:c=34∨c=39)(ha:an 0 (c::y) p s=some s'):∃e,Db (c::y) p=some e∧an (e - (p+1)) y (p+1) ⟨[c],s.sk,s.br++[(p,s.sk.length+1),(e,s.sk.length)]⟩=some s':=by
 have h:(match Db (c::y) p with |some e=>an (e - (p+1)) y (p+1) ⟨[c],s.sk,s.br++[(p,s.sk.length+1),(e,s.sk.length)]⟩ |none=>none)=some s':=by
  rw[Me]at ha
  induction hc using jI with
  |inl h=>subst h;exact ha
  |inr h=>subst h;exact ha
 induction q:Db (c::y) p using zh with
 |none=>rw[q]at h;exact nomatch h
 |some e=>rw[q]at h;exact⟨e,rfl,h⟩
theorem lg{s':A2}(hc:c=35)(ha:an 0 (c::y) p s=some s'):Af Ey y < y.length∧an (Af Ey y+1) y (p+1) ⟨s.lc,s.sk,s.br++[(p,s.sk.length+1),(p+1+Af Ey y+1,s.sk.length)]⟩=some s':=by
 rw[Me]at ha
 subst hc
 have h:cond (Nat.blt (Af Ey y) y.length) (an (Af Ey y+1) y (p+1) ⟨s.lc,s.sk,s.br++[(p,s.sk.length+1),(p+1+Af Ey y+1,s.sk.length)]⟩) none=some s':=ha
 induction q:Nat.blt (Af Ey y) y.length using za with
 |false=>rw[q]at h;exact nomatch h
 |true=>rw[q]at h;exact⟨zp q,h⟩
theorem lh{s':A2}(hc:c=92)(ha:an 0 (c::y) p s=some s'):∃d y',y=d::y'∧an 0 y' (p+2) ⟨cond (Nat.beq d 10) s.lc [92,d],s.sk,s.br⟩=some s':=by
 subst hc
 induction y using zi with
 |nil=>exact nomatch ha
 |cons d y=>exact⟨d,y,rfl,ha⟩
end
theorem IA:∀{k:Nat} {y:Txt} {p:Nat} {s s':A2},an k y p s=some s'→k≤y.length∧an 0 (y.drop k) (p+k) s=some s'
 |0,y,p,s,s',h=>⟨zH _,h⟩
 |k+1,[],p,s,s',h=>nomatch h
 |k+1,c::y,p,s,s',h=>by
  have r:=IA (k:=k) (y:=y) (p:=p+1) (s:=s) (s':=s') h
  exact⟨zN r.1,by rw[show p+(k+1)=p+1+k by lia];exact r.2⟩
noncomputable def FF:A2→Txt→A2
 |s,[]=>s
 |s,c::y=>FF (s.Sb c) y
theorem O9(u:Txt)(c:Nat)(s:A2):FF s (u++[c])=(FF s u).Sb c:=by
 induction u generalizing s with
 |nil=>rfl
 |cons d u ih=>exact ih _
theorem Kx(u:Txt):∀(s:A2),(FF s u).sk=s.sk∧(FF s u).br=s.br:=by
 induction u with
 |nil=>exact fun _=>⟨rfl,rfl⟩
 |cons d u ih=>
  intro s
  have e2:(s.Sb d).sk=s.sk∧(s.Sb d).br=s.br:=by unfold A2.Sb;induction wh d using za <;>exact⟨rfl,rfl⟩
  exact⟨(ih _).1.trans e2.1,(ih _).2.trans e2.2⟩
theorem Ww:∀c,c < 256→K3 c= !(cin c [40,91,123,41,93,125,34,39,35,92]):=by decide+kernel
theorem S8{c:Nat}(h:¬c < 256):K3 c=true:=by
 unfold K3;rw[zJ h];rfl
theorem ES{c:Nat}{l:Txt}(h:¬c < 256)(hl:∀x∈l,x < 256):cin c l=false:=by
 induction e:cin c l using za with
 |false=>rfl
 |true=>exact absurd (hl c (Nu e)) h
theorem ZK{c:Nat}(h:K3 c=true):cin c [40,91,123]=false∧cin c [41,93,125]=false∧cin c [34,39]=false∧cin c [35]=false∧cin c [92]=false:=by
 by_cases hc:c < 256
 ·exact(show∀c,c < 256→K3 c=true→cin c [40,91,123]=false∧cin c [41,93,125]=false∧cin c [34,39]=false∧cin c [35]=false∧cin c [92]=false by decide+kernel) c hc h
 ·exact⟨ES hc (by decide),ES hc (by decide),ES hc (by decide),ES hc (by decide),ES hc (by decide)⟩
theorem ZJ{c:Nat}(h:K3 c=false):cin c [40,91,123,41,93,125,34,39,35,92]=true:=by
 by_cases hc:c < 256
 ·rw[Ww c hc]at h
  exact jM fun n=>by rw[Bool.eq_false_iff.mpr n]at h;exact Bool.noConfusion h
 ·rw[S8 hc]at h;exact Bool.noConfusion h
theorem Wi{c:Nat}{y:Txt}{p:Nat}{s:A2}(h:K3 c=true):an 0 (c::y) p s=an 0 y (p+1) (s.Sb c):=by
 refine SM (ZK h) fun h1 h2 h3 h4 h5=>?_
 rw[Me,h1,h2,h3,h4,h5];rfl
theorem PN:∀{u v:Txt} {p:Nat} {s:A2},(∀c∈u,K3 c=true)→an 0 (u++v) p s=an 0 v (p+u.length) (FF s u)
 |[],_,_,_,_=>rfl
 |c::u,v,p,s,h=>by
  rw[jH,Wi (h c (.head _)),PN fun c h'=>h c (.tail _ h'),zy,show p+(u.length+1)=p+1+u.length by lia];rfl
theorem EC(a:Nat→Bool):∀r,∃u v,r=u++v∧u.length=Af a r∧(∀c∈u,a c=true)∧(v=[]∨∃c y,v=c::y∧a c=false)
 |[]=>⟨[],[],rfl,rfl,(fun _ h=>nomatch h),.inl rfl⟩
 |c::r=>by
  induction h:a c using za with
  |false=>exact⟨[],c::r,rfl,by unfold Af;rw[h];rfl,(fun _ h=>nomatch h),.inr ⟨c,r,rfl,h⟩⟩
  |true=>
   refine Pq (EC a r) fun u v e hl hu hv=>?_
   refine⟨c::u,v,by rw[e];rfl,by unfold Af;rw[h,zy,hl];rfl,fun x hx=>?_,hv⟩
   cases hx with
   |head=>exact h
   |tail _ hx=>exact hu x hx
noncomputable def bv(l:List (Nat×Nat)):List Val:=l.map fun x=>.seq true [.int (.ofNat x.1),.int (.ofNat x.2)]
theorem IK(l:List (Nat×Nat))(a b:Nat):bv (l++[(a,b)])=bv l++[.seq true [.int (.ofNat a),.int (.ofNat b)]]:=jm
theorem P6(l:List (Nat×Nat)):(bv l).length=l.length:=z3 ..
theorem QC:∀l:List Nat,Cv (gv l)=gv (bl l)
 |[]=>rfl
 |[_]=>rfl
 |x::y::r=>zB (Val.int (.ofNat x)::·) (QC (y::r))
noncomputable def O8(z:Int)(p:Nat)(s:A2)(t:Txt)(gl:Val)(q:Nat)(n m ch np:Option LV)(sf:List (Option LV))(h:List Cell):St:=
 ⟨[some (.v (.int z)),I p,some (.v (.str s.lc)),some (.loc 0),some (.app 0),some (.loc 1),some (.v (.str t)),some (.v gl),I q,n,m,ch,np],[gv s.sk,bv s.br],sf,h⟩
section
variable {C:Cfg}{X:A7→St→Prop}
theorem Z4{a p:Nat}(h:p < a):(!ltI (Int.ofNat a - Int.ofNat 1) (Int.ofNat p))=true:=by
 induction a using zE with
 |zero=>lia
 |succ a=>rw[FJ];show(!Nat.blt a p)=true;rw[HX (by lia)];rfl
theorem Z3{a p:Nat}(h:a≤p):(!ltI (Int.ofNat a - Int.ofNat 1) (Int.ofNat p))=false:=by
 induction a using zE with
 |zero=>rfl
 |succ a=>rw[FJ];show(!Nat.blt a p)=false;rw[BE (by lia)];rfl
theorem QF{rx:Rx}{t:Txt}{a c:Nat}(h:t[a]? =some c):AG rx .idx (.str t) (.int (Int.ofNat (a+1) - Int.ofNat 1))=some (.str [c]):=by
 rw[FJ];exact Co h
theorem ZC{t B:Txt}{p:Nat}(hp:B.length=p){s:A2}{gl:Val}{q:Nat}{n m ch np:Option LV}{sf:List (Option LV)}{h:List Cell}{Q:Out→St→Prop}(N:Nat):
  ∀(u v:Txt),u.length=N→t=B++(u++v)→
  (FF s u=s→Q .next (O8 (Int.ofNat p - Int.ofNat 1) p s t gl q n m ch np sf h))→
  (∀a c,p≤a→FF s u=⟨[c],s.sk,s.br⟩→t[a]? =some c→Q .next (O8 (Int.ofNat (a+1) - Int.ofNat 1) p s t gl q n m ch np sf h))→
  C6 (Ec C X Gc) (Ay C X Ga) (Ay C X Gb) Q (N+1) (O8 (Int.ofNat (p+u.length) - Int.ofNat 1) p s t gl q n m ch np sf h):=by
 induction N with
 |zero=>
  intro u v hu ht H0 H1
  cases Jj hu
  conv=>whnf
  refine AM (Z3 (zw _)) ?_
  conv=>whnf
  exact H0 rfl
 |succ N ih=>
  intro u v hu ht H0 H1
  refine(List.eq_nil_or_concat u).elim (fun e=>nomatch (e▸hu:([]:Txt).length=N+1)) fun⟨u',c,e⟩=>?_
  rw[List.concat_eq_append]at e
  have hl:u.length=u'.length+1:=by rw[e,zd];rfl
  have hN:u'.length=N:=Nat.succ.inj (hl.symm.trans hu)
  have ht':t=B++(u'++([c]++v)):=by rw[ht,e,zk]
  have hc:t[p+u'.length]? =some c:=by
   rw[ht',←zk,←hp,←zd,zU (zw _),jW];rfl
  have hs:FF s u=(FF s u').Sb c:=by rw[e,O9]
  rw[hl,←zT]
  conv=>whnf
  refine Ap (Z4 (jK (zA p u'.length))) ?_
  conv=>whnf
  refine A9 (QF hc) ?_
  induction hw:wh c using za with
  |true=>
   have hs:FF s u=FF s u':=by rw[hs];unfold A2.Sb;rw[hw];rfl
   rw[hs]at H0 H1
   have k:=ih u' ([c]++v) hN ht' H0 H1
   rw[←FJ (p+u'.length)]at k
   conv=>whnf
   refine Ap (hw) ?_
   conv=>whnf
   exact k
  |false=>
   conv=>whnf
   refine AM (hw) ?_
   conv=>whnf
   refine H1 (p+u'.length) c (zA _ _) ?_ hc
   rw[hs,A2.Sb,hw,(Kx u' s).1,(Kx u' s).2];rfl
end
end
section
open L04 Rxm
noncomputable def Ir:Ss:=.cons (.asg 11 (.p2 .idx (.loc 6) (.loc 1))) (.cons (.if_ (.p2 .isin (.loc 11) (.lit (.str [40,91,123]))) (.cons (.ex (.push 4 (.loc 1))) (.cons (.ex (.apnd 5 (.seq true (.cons (.loc 1) (.cons (.p1 .len (.loc 3)) .nil))))) (.cons (.asg 2 (.loc 11)) (.cons (.asg 1 (.p2 .add (.loc 1) (.lit (.int (.ofNat 1))))) (.cons (.cont) .nil))))) (.nil)) (.cons (.if_ (.p2 .isin (.loc 11) (.lit (.str [41,93,125]))) (.cons (.if_ (.loc 3) (.cons (.dell 3) .nil) (.nil)) (.cons (.asg 2 (.loc 11)) (.cons (.asg 1 (.p2 .add (.loc 1) (.lit (.int (.ofNat 1))))) (.cons (.ex (.apnd 5 (.seq true (.cons (.loc 1) (.cons (.p1 .len (.loc 3)) .nil))))) (.cons (.cont) .nil))))) (.nil)) (.cons (.if_ (.bl false (.cons (.p2 .eq (.loc 11) (.lit (.str [34]))) (.cons (.p2 .eq (.loc 11) (.lit (.str [39]))) .nil))) (.cons (.ex (.apnd 5 (.seq true (.cons (.loc 1) (.cons (.p2 .add (.p1 .len (.loc 3)) (.lit (.int (.ofNat 1)))) .nil))))) (.cons (.asg 2 (.loc 11)) (.cons (.asg 1 (.p1 .mend (.p3 .strre (.loc 6) (.loc 1) (.loc 8)))) (.cons (.ex (.apnd 5 (.seq true (.cons (.loc 1) (.cons (.p1 .len (.loc 3)) .nil))))) (.cons (.cont) .nil))))) (.nil)) (.cons (.if_ (.p2 .eq (.loc 11) (.lit (.str [35]))) (.cons (.ex (.apnd 5 (.seq true (.cons (.loc 1) (.cons (.p2 .add (.p1 .len (.loc 3)) (.lit (.int (.ofNat 1)))) .nil))))) (.cons (.asg 1 (.p2 .add (.p4 .find (.loc 6) (.lit (.str [10])) (.loc 1) (.loc 8)) (.lit (.int (.ofNat 1))))) (.cons (.asrt (.p2 .gt (.loc 1) (.lit (.int (.ofNat 0))))) (.cons (.ex (.apnd 5 (.seq true (.cons (.loc 1) (.cons (.p1 .len (.loc 3)) .nil))))) (.cons (.cont) .nil))))) (.nil)) (.cons (.asrt (.p2 .eq (.loc 11) (.lit (.str [92])))) (.cons (.asg 1 (.p2 .add (.loc 1) (.lit (.int (.ofNat 1))))) (.cons (.asrt (.p2 .lt (.loc 1) (.loc 8))) (.cons (.if_ (.p2 .ne (.p2 .idx (.loc 6) (.loc 1)) (.lit (.str [10]))) (.cons (.asg 2 (.p2 .add (.loc 11) (.p2 .idx (.loc 6) (.loc 1)))) .nil) (.nil)) (.cons (.asg 1 (.p2 .add (.loc 1) (.lit (.int (.ofNat 1))))) .nil)))))))))
theorem f0{α:Type}(l:List α)(a b:α):l++[a,b]=(l++[a])++[b]:=by rw[zk];rfl
theorem Nw{b:Bool}{x y:Option Nat}{P:Nat→Prop}(h1:∀r,x=some r→P r)(h2:∀r,y=some r→P r):∀r,cond b x y=some r→P r:=by
 induction b using za <;>assumption
theorem Of{s:Txt}{p e:Nat}(h:Db s p=some e):p+1≤e:=by
 have k1:∀{a r:Nat},some (p+1+a)=some r→p+1≤r:=fun h=>ze h▸zA _ _
 have k3:∀{a r:Nat},some (p+3+a)=some r→p+1≤r:=fun h=>ze h▸zl (zS (show 1≤3 by decide) p) (zA _ _)
 have:∀r,Db s p=some r→p+1≤r:=Nw (fun _=>k3) (Nw (fun _=>k1) (Nw (fun _=>k3) (Nw (fun _=>k1) nofun)))
 exact this e h
theorem take_drop{t r:Txt}{p q:Nat}(hr:(t.take q).drop p=r)(hpq:p≤q)(hq:q≤t.length):t.drop p=r++t.drop q∧r.length=q - p:=by
 have e:t.drop p=(t.take q).drop p++t.drop q:=by
  rw[←jR (by rw[jo];lia),List.take_append_drop]
 refine⟨by rw[e,hr],by rw[←hr,z4,jo];lia⟩
theorem P9{rx:Rx}(R:Dc rx){t:Txt}{p q:Nat}{o:Option Nat}(h:ER t p q=o)(hpq:p≤q)(hq:q≤t.length)(hl:t.length≤100000):Dr rx .chew (.str t) (.int (.ofNat p)) (.int (.ofNat q))=CL p o:=by
 show cond (Nat.ble p q && (Nat.ble q t.length && Nat.ble t.length 100000)) (CL p (rx.chew t p q)) none=_
 rw[zt hpq,zt hq,zt hl,R.chew,h];rfl
theorem V3{rx:Rx}(R:Dc rx){t:Txt}{p q:Nat}{o:Option Nat}(h:KE t p q=o)(hpq:p≤q)(hq:q≤t.length)(hl:t.length≤100000):Dr rx .strre (.str t) (.int (.ofNat p)) (.int (.ofNat q))=CL p o:=by
 show cond (Nat.ble p q && (Nat.ble q t.length && Nat.ble t.length 100000)) (CL p (rx.strre t p q)) none=_
 rw[zt hpq,zt hq,zt hl,R.strre,h];rfl
theorem UE:∀{y:Txt},Af Ey y < y.length→∃u v,y=u++10::v∧u.length=Af Ey y∧∀c∈u,c≠10:=fun{y} h=>by
 refine Pq (EC Ey y) fun u v e hl hu hv=>?_
 have hu':∀c∈u,c≠10:=fun c hc e10=>by have:=hu c hc;rw[e10]at this;exact absurd this (by decide)
 obtain rfl |⟨c,y',rfl,hc⟩:=hv
 ·rw[←hl,e,zL]at h;exact absurd h (Jm _)
 ·have:c=10:=by
   unfold Ey at hc
   exact jM fun hn=>by rw[show(c !=10)=true from J5.mpr hn]at hc;exact absurd hc (by decide)
  exact⟨u,y',by rw[e,this],hl,hu'⟩
theorem PZ:∀l:List Nat,(bl l).length≤l.length
 |[]=>zw _
 |[_]=>zH _
 |x::y::r=>zN (PZ (y::r))
variable {cl:EI}{ini nf:Nat}{X:A7→St→Prop}{rx:Rx}
noncomputable def Wa(L:St→Prop)(Q:Out→St→Prop)(o:Out)(σ:St):Prop:=match o with | .next=>L σ | .cont=>L σ | .brk=>Q .next σ | .ret v=>Q (.ret v) σ
noncomputable def Bd(s:A2)(p q:Nat):Prop:=s.sk.length≤s.br.length∧s.br.length+2*(q - p) < Az
theorem Bd.go{s:A2}{p p' q:Nat}(h:Bd s p q){lc:Txt}{sk:List Nat}{br:List (Nat×Nat)}(hp:p < p')(hq:p'≤q)(h1:sk.length≤br.length)(h2:br.length≤s.br.length+2):Bd ⟨lc,sk,br⟩ p' q:=by
 refine⟨h1,jA ?_ h.2⟩
 refine zg (Jz hp) fun a ea=>zg (Jz hq) fun b eb=>?_
 rw[←eb,←ea,jn,J6,J6,zT,←Nat.add_succ,jn]
 show br.length+2*b≤s.br.length+2*(a+b+1)
 lia
theorem Bd.br{s:A2}{p q:Nat}(h:Bd s p q):s.br.length < Az:=jA (zA _ _) h.2
theorem Bd.i9{s:A2}{p q:Nat}(h:Bd s p q)(hp:p < q):s.br.length+1 < Az:=
 jA (zS (zl (Nat.sub_pos_of_lt hp) (Nat.le_mul_of_pos_left _ (jl 1))) _) h.2
theorem Np{l:List (Nat×Nat)}(h:l.length < Az):Nat.blt (bv l).length Az=true:=BE (by rw[P6];exact h)
theorem P7{l:List (Nat×Nat)}{v:Val}(h:l.length+1 < Az):Nat.blt (bv l++[v]).length Az=true:=BE (by rw[zd,P6];exact h)
theorem Z9{l:List Nat}(h:l.length < Az):Nat.blt (gv l).length Az=true:=BE (by rw[C9];exact h)
theorem ka{l:List (Nat×Nat)}{a x n:Nat}(h:x=n):bv (l++[(a,x)])=bv l++[.seq true [.int (.ofNat a),.int (.ofNat n)]]:=h▸IK l a x
theorem kb{l:List (Nat×Nat)}{a b x y n m:Nat}{i:Int}(h:x=n)(hi:i=.ofNat b)(h':y=m):bv (l++[(a,x),(b,y)])=(bv l++[.seq true [.int (.ofNat a),.int (.ofNat n)]])++[.seq true [.int i,.int (.ofNat m)]]:=by
 rw[f0,IK,IK,h,h',hi]
theorem lD{l:List Nat}{v:Val}:l.length+1=(gv l++[v]).length:=by rw[zd,C9];rfl
theorem lE{l:List Nat}:(bl l).length=(Cv (gv l)).length:=by rw[QC,C9]
theorem four{c:Nat}(hc:K3 c=false)(h1:cin c [40,91,123]=false)(h2:cin c [41,93,125]=false):(c=34∨c=39)∨c=35∨c=92:=
 (Nr (l:=[40,91,123]) (m:=[41,93,125,34,39,35,92]) (ZJ hc)).elim (fun h=>Bool.noConfusion (h1.symm.trans h)) fun h=>(Nr (l:=[41,93,125]) (m:=[34,39,35,92]) h).elim (fun h=>Bool.noConfusion (h2.symm.trans h)) fun h=>
  (Cr h).elim (fun e=>.inl (.inl e)) fun h=>(Cr h).elim (fun e=>.inl (.inr e)) fun h=>.inr ((Cr h).imp id fun h=>(Cr h).elim id fun h=>Bool.noConfusion h)
theorem dQ{C:Cfg}{r:Ss}{Q:Out→St→Prop}{loc:List (Option LV)}{l:List Nat}{b:List Val}{sf:List (Option LV)}{h:List Cell}(hl:Ax loc 3=some (.loc 0))(k:Ay C X r Q ⟨loc,[Cv (gv l),b],sf,h⟩):
  Ay C X (.cons (.if_ (.loc 3) (.cons (.dell 3) .nil) .nil) r) Q ⟨loc,[gv l,b],sf,h⟩:=by
 show B9 (Ax loc 3) _
 rw[hl]
 induction l using zi with
 |nil=>exact k
 |cons a l=>
  show(match Ax loc 3 with |some (.loc j)=>(match CW [gv (a::l),b] j with |some (x::xs)=>_ |_=>False) |_=>False)
  rw[hl]
  exact k
theorem special(R:Dc rx){t:Txt}{q:Nat}{gl:Val}{sf:List (Option LV)}{h:List Cell}{Q:Out→St→Prop}{L:St→Prop}{s s':A2}{c p:Nat}{y:Txt}
  (hl:t.length≤100000) (hq:q≤t.length) (hpq:p≤q) (hr:(t.take q).drop p=c::y) (hc:K3 c=false) (ha:an 0 (c::y) p s=some s') (hb:Bd s p q)
  (K:∀p' s1 z n m ch np,p < p'→p'≤q→an 0 ((t.take q).drop p') p' s1=some s'→Bd s1 p' q→L (O8 z p' s1 t gl q n m ch np sf h))
  {z:Int} {n m ch np:Option LV}:Ay ⟨rx,cl,ini,nf⟩ X Ir (Wa L Q) (O8 z p s t gl q n m ch np sf h):=by
 refine Ao (take_drop hr hpq hq) fun hd hlen=>?_
 have hcp:t[p]? =some c:=JI.symm.trans (zB List.head? hd)
 have hq':p+(y.length+1)=q:=(zB (p+·) hlen).trans (jw hpq)
 have hpl:∀k,k≤y.length→p+1+k≤q:=fun k hk=>zl (Jc (j3 p 1 k)) (zl (zS (zN hk) p) (Jc hq'))
 have hpq1:p < q:=hpl 0 (zH _)
 have K:∀{k lc sk br g b i z n m ch np},k≤y.length→an 0 (y.drop k) (p+1+k) ⟨lc,sk,br⟩=some s'→sk.length≤br.length→br.length≤s.br.length+2→i=Int.ofNat (p+1+k)→gv sk=g→bv br=b→
   L ⟨[some (.v (.int z)),some (.v (.int i)),some (.v (.str lc)),some (.loc 0),some (.app 0),some (.loc 1),some (.v (.str t)),some (.v gl),I q,n,m,ch,np],[g,b],sf,h⟩:=by
  intro k lc sk br g b i z n m ch np hk ha h1 h2 hi hg hbb
  rw[hi,←hg,←hbb]
  refine K (p+1+k) ⟨lc,sk,br⟩ z n m ch np (zO (zQ p) (zA _ _)) (hpl k hk) ?_ (hb.go (zO (zQ p) (zA _ _)) (hpl k hk) h1 h2)
  rw[←ja,←ja,hr];exact ha
 have l1:∀{v},s.sk.length≤(s.br++[v]).length:=by intro v;rw[zd];exact zl hb.1 (zA _ _)
 have l2:∀{v w},s.sk.length≤(s.br++[v,w]).length:=by intro v w;rw[zd];exact zl hb.1 (zA _ _)
 have m1:∀{v},(s.br++[v]).length≤s.br.length+2:=by intro v;rw[zd];exact zV _
 have m2:∀{v w},(s.br++[v,w]).length≤s.br.length+2:=by intro v w;rw[zd];exact zw _
 conv=>whnf
 refine A9 (Co hcp) ?_
 induction h1:cin c [40,91,123]using za with
 |true=>
  conv=>whnf
  refine Ap (h1) ?_
  conv=>whnf
  refine Ap (Z9 (jA hb.1 hb.br)) ?_
  conv=>whnf
  refine Ap (Np hb.br) ?_
  conv=>whnf
  exact K (k:=0) (zH _) (k7 h1 ha) (by rw[zd,zd];exact zN hb.1) m1 rfl (EZ ..) (ka lD)
 |false=>
  induction h2:cin c [41,93,125]using za with
  |true=>
   have k:=fun{z n m ch np}=>K (k:=0) (z:=z) (n:=n) (m:=m) (ch:=ch) (np:=np) (zH _) (k8 h1 h2 ha) (zl (PZ _) l1) m1 rfl (QC ..).symm (ka lE)
   conv=>whnf
   refine AM (h1) ?_
   conv=>whnf
   refine Ap (h2) ?_
   refine dQ (l:=s.sk) rfl ?_
   conv=>whnf
   refine Ap (Np hb.br) ?_
   conv=>whnf
   exact k
  |false=>
   conv=>whnf
   refine AM (h1) ?_
   conv=>whnf
   refine AM (h2) ?_
   refine(four hc h1 h2).elim (fun hc=>?_) fun hc=>?_
   ·refine Ab (k9 hc ha) fun e h3 ha=>?_
    have e3:p+1+(e - (p+1))=e:=jw (Of h3)
    refine Ao (IA ha) fun h4 h5=>?_
    show Ec ⟨rx,cl,ini,nf⟩ X (.bl false _) _ ((O8 z p s t gl q n m ch np sf h).DD 11 (.v (.str [c])))
    refine MN rfl hc ?_
    conv=>whnf
    refine Ap (Np hb.br) ?_
    conv=>whnf
    refine A9 (V3 R (o:=some e) (by unfold KE;rw[hr];exact h3) hpq hq hl) ?_
    conv=>whnf
    refine Ap (P7 (hb.i9 hpq1)) ?_
    conv=>whnf
    exact K h4 h5 l2 m2 (zB Int.ofNat e3.symm) rfl (kb (zB (· +1) (C9 _).symm) rfl (C9 _).symm)
   ·have n34:c≠34:=hc.elim (fun e=>e▸(by decide)) (fun e=>e▸(by decide))
    have n39:c≠39:=hc.elim (fun e=>e▸(by decide)) (fun e=>e▸(by decide))
    conv=>whnf
    refine AM (CQ n34) ?_
    conv=>whnf
    refine AM (CQ n39) ?_
    refine hc.elim (fun hc=>?_) fun hc=>?_
    ·refine Ao (lg hc ha) fun h3 ha=>?_
     refine Ba (UE h3) fun u v e hul hu=>?_
     refine Ao (IA ha) fun h4 h5=>?_
     have hf:Di [10] t p (min q t.length)+Int.ofNat 1=Int.ofNat (p+1+(Af Ey y+1)):=by
      rw[jd hq,show Di [10] t p q=Int.ofNat (p+(u.length+1))from Mv (t:=t) (b:=q) (c::u) (v++t.drop q) p _ (jw (jx hpq)) (by
       have:=hpl _ h3;rw[zy,hul];lia) (by rw[hd,e];simp only[jH,zk]) (zo.mpr ⟨hc▸(by decide),hu⟩),hul]
      exact zB Int.ofNat (by lia)
     conv=>whnf
     refine Ap (Dv hc) ?_
     conv=>whnf
     refine Ap (Np hb.br) ?_
     conv=>whnf
     refine Ap ((by rw[hf];rfl)) ?_
     conv=>whnf
     refine Ap (P7 (hb.i9 hpq1)) ?_
     conv=>whnf
     exact K h4 h5 l2 m2 hf rfl (kb (zB (· +1) (C9 _).symm) hf (C9 _).symm)
    ·refine A6 (lh hc ha) fun d y' ey ha=>?_
     have hy:1≤y.length:=by rw[ey];exact zN (zH _)
     have hd2:t[p+1]? =some d:=by
      rw[←JI,←ja,hd,ey];rfl
     have k:=fun{lc z n m ch np} (ha:an 0 y' (p+2) ⟨lc,s.sk,s.br⟩=some s')=>K (k:=1) (z:=z) (n:=n) (m:=m) (ch:=ch) (np:=np) hy (by rw[ey];exact ha) hb.1 (zA _ _) rfl rfl rfl
     conv=>whnf
     refine AM (CQ (by rw[hc];decide)) ?_
     conv=>whnf
     refine Ap (Dv hc) ?_
     conv=>whnf
     refine Ap (BE (hpl 0 (zH _) |>fun _=>hpl 1 hy |>zO (zQ (p+1)))) ?_
     conv=>whnf
     refine A9 (Co hd2) ?_
     by_cases h10:d=10
     ·rw[De h10]at ha
      conv=>whnf
      refine AM ((by show(!Bt [d] [10])=false;rw[Dv h10];rfl)) ?_
      conv=>whnf
      exact k ha
     ·rw[Be h10]at ha
      conv=>whnf
      refine Ap ((by show(!Bt [d] [10])=true;rw[CQ h10];rfl)) ?_
      conv=>whnf
      refine A9 (Co hd2) ?_
      conv=>whnf
      rw[hc]
      exact k ha
theorem Wx(t:Txt)(p q:Nat){r u:Txt}(hr:(t.take q).drop p=r)(hu:u.length=Af K3 r):ER t p q=cond (Nat.ble 1 u.length) (some (p+u.length)) none:=by
 unfold ER;rw[hr,hu]
noncomputable def ff(rx:Rx)(cl:EI)(ini nf:Nat)(X:A7→St→Prop)(Q:Out→St→Prop)(N:Nat)(σ:St):Prop:=
 C6 (Ec ⟨rx,cl,ini,nf⟩ X Gg) (Ay ⟨rx,cl,ini,nf⟩ X Ge) (Ay ⟨rx,cl,ini,nf⟩ X Gf) Q N σ
theorem lj(R:Dc rx){t:Txt}{q:Nat}{gl:Val}{sf:List (Option LV)}{h:List Cell}{Q:Out→St→Prop}{s':A2}
  (hl:t.length≤100000) (hq:q≤t.length) (hQ:∀z n m ch np,Q .next (O8 z q s' t gl q n m ch np sf h)):
  ∀(N p:Nat) (s:A2) (z:Int) (n m ch np:Option LV),p≤q→q - p≤N→an 0 ((t.take q).drop p) p s=some s'→Bd s p q→ff rx cl ini nf X Q (N+1) (O8 z p s t gl q n m ch np sf h):=by
 have hQ:∀{p s z n m ch np},p=q→s=s'→Q .next (O8 z p s t gl q n m ch np sf h):=fun e e'=>by subst e;subst e';exact hQ ..
 have END:∀{N p:Nat} {s:A2} {z:Int} {n m ch np:Option LV},q≤p→p≤q→an 0 ((t.take q).drop p) p s=some s'→ff rx cl ini nf X Q (N+1) (O8 z p s t gl q n m ch np sf h):=by
  intro N p s z n m ch np h1 h2 ha
  rw[jL (zl (List.length_take_le q t) h1)]at ha
  conv=>whnf
  refine AM (HX h1) ?_
  conv=>whnf
  exact hQ (J9 h2 h1) (ze ha)
 intro N
 induction N with
 |zero=>exact fun p s z n m ch np h1 h2 ha _=>END (Jo (Nat.le_zero.mp h2)) h1 ha
 |succ N IH=>
  intro p s z n m ch np hpq hN ha hb
  by_cases hlt:p < q
  ·refine Pq (EC K3 ((t.take q).drop p)) fun u v e hul hu hv=>?_
   refine Ao (take_drop e hpq hq) fun hd hlen=>?_
   have K:∀p' s1 z n m ch np,p < p'→p'≤q→an 0 ((t.take q).drop p') p' s1=some s'→Bd s1 p' q→ff rx cl ini nf X Q (N+1) (O8 z p' s1 t gl q n m ch np sf h):=
    fun p' s1 z n m ch np h1 h2 h3 h4=>IH p' s1 z n m ch np h2 (Jp (zO (JK hlt h1) hN)) h3 h4
   have hw:=Wx t p q rfl hul
   conv=>whnf
   refine Ap (BE hlt) ?_
   conv=>whnf
   induction u using zi with
   |nil=>
    refine A9 (P9 R hw hpq hq hl) ?_
    conv=>whnf
    refine hv.elim (fun ev=>absurd hlen (by rw[ev];exact(Nat.ne_of_gt (Nat.sub_pos_of_lt hlt)).symm)) fun⟨c,y,ev,hc⟩=>?_
    have e:(t.take q).drop p=c::y:=e.trans ev
    exact special R hl hq hpq e hc (e▸ha) hb K
   |cons a u=>
    rw[e,PN hu]at ha
    have sk:=Kx (a::u) s
    have hB:(t.take p).length=p:=(jo ..).trans (jd (zl hpq hq))
    have ht:t=t.take p++((a::u)++(v++t.drop q)):=by rw[←zk (a::u) v,←hd,List.take_append_drop]
    have hpu:p+(a::u).length+v.length=q:=by rw[zT,←zd,hlen];exact jw hpq
    refine A9 (P9 R (o:=some (p+(a::u).length)) hw hpq hq hl) ?_
    conv=>whnf
    have go:∀{z s1 m ch},s1=FF s (a::u)→s1.sk=s.sk→s1.br=s.br→Br (!Nat.blt (p+(a::u).length) q) (Q .next (O8 z (p+(a::u).length) s1 t gl q n m ch (I (p+(a::u).length)) sf h))
      (Ay ⟨rx,cl,ini,nf⟩ X Ir (Wa (ff rx cl ini nf X Q (N+1)) Q) (O8 z (p+(a::u).length) s1 t gl q n m ch (I (p+(a::u).length)) sf h)):=by
     intro z s1 m ch e1 e2 e3
     rw[←e1]at ha
     refine hv.elim (fun ev=>?_) fun⟨c,y,ev,hc⟩=>?_
     ·rw[ev]at ha hpu
      exact Ap (by rw[HX (show q≤p+(a::u).length from Jc hpu.symm)];rfl) (hQ hpu (ze ha))
     ·rw[ev]at ha hpu
      have hlt':p+(a::u).length < q:=Nat.lt_of_lt_of_eq (Jg (jl _)) hpu
      refine AM (by rw[BE hlt'];rfl) ?_
      exact special R hl hq (Jb hlt') (by rw[←ja,e,ju,ev]) hc ha (Bd.go (s:=s) hb (lc:=s1.lc) (Jg (jl _)) (Jb hlt') (by rw[e2,e3];exact hb.1) (by rw[e3];exact zA _ _))
       fun p' s1 z n m ch np h1 h2 h3 h4=>K p' s1 z n m ch np (jA (zA _ _) h1) h2 h3 h4
    refine⟨_,ZC hB (s:=s) (gl:=gl) (sf:=sf) (h:=h) u.length.succ (a::u) _ rfl ht (fun h0=>?_) (fun b x hb1 h1 hx=>?_)⟩
    ·conv=>whnf
     refine AM (Z3 (zw _)) ?_
     conv=>whnf
     exact go h0.symm rfl rfl
    ·conv=>whnf
     refine Ap (Z4 (jK hb1)) ?_
     conv=>whnf
     refine A9 (QF hx) ?_
     conv=>whnf
     exact go h1.symm rfl rfl
  ·exact END (Jh hlt) hpq ha
end
section
open L04 Rxm
noncomputable def Z8(t:Txt):Val:=.seq false (gv (Vr (fin t)))
noncomputable def ZL(t:Txt):Val:=.int (.ofNat (BX (fin t)))
noncomputable def S1(t:Txt)(l:Nat)(gl co:Option Val):Prop:=l=0∨(l=1∧gl=some (Z8 t)∧co=some (ZL t))
structure EL(t:Txt):Prop where
 ends:Ends t
 asc:AC 128 t=true
 len:t.length≤100000
section
variable {rx:Rx}{d iw tw:Nat}{t:Txt}{l:Nat}{gl co ss se lc lo br:Option Val}{h:List Cell}{K:Val→List (Option Val)→List Cell→Prop}{X:A7→List (Option Val)→List Cell→Prop}
theorem MX(o:EL t)(hs:S1 t l gl co)(hK:K .none (fld iw tw t 1 (some (Z8 t)) (some (ZL t)) ss se lc lo br) h):AD (PQ rx) (d+1) 2 (fld iw tw t l gl co ss se lc lo br) [] h K X:=by
 obtain rfl |⟨rfl,rfl,rfl⟩:=hs
 ·exact MZ o.ends o.asc o.len hK
 ·exact KG (.inl rfl) hK
theorem Z1{o:List (List Val)}{g c p q a b e:Val}:
  fz o (Bg (Bg (Bg (Bg (Bg (Bg (BD (fld iw tw t 1 (some g) (some c) ss se lc lo br)) 3 (.v (.int (.ofNat 2)))) 6 (.v p)) 7 (.v q)) 8 (.v a)) 9 (.v b)) 10 (.v e))=some (fld iw tw t 2 (some g) (some c) (some p) (some q) (some a) (some b) (some e)):=by
 show fz o (some (.v (.int (.ofNat iw)))::some (.v (.int (.ofNat tw)))::some (.v (.str t))::some (.v (.int (.ofNat 2)))::some (.v g)::some (.v c)::Bg (Bg (Bg (Bg (Bg (BD [ss,se,lc,lo,br]) 0 (.v p)) 1 (.v q)) 2 (.v a)) 3 (.v b)) 4 (.v e))=_
 rw[B4 ss,B4 se,B4 lc,B4 lo,B4 br]
 exact Cy rfl (Cy rfl (Cy rfl (Cy rfl (Cy rfl (Cy rfl (Cy rfl (Cy rfl (Cy rfl (Cy rfl (Cy rfl rfl))))))))))
noncomputable def gB:List Nat→Val
 |[]=>.none
 |a::l=>.int (.ofNat ((a::l).getLast (JE _ _)))
structure Last(rx:Rx)(t:Txt)(p q:Nat)(s:A2):Prop where
 out:∃(A c:Txt) (g0 a m k:Nat),Ends A∧Ln (m+1) c∧(Vr (fin t))[g0]? =some a∧rx.junk t A.length=none∧Jn rx t (A++c) k t∧(∀j,j≤k→(Vr (fin t))[g0+1+j]? =some (a+(m+1)+j))∧
  (Vr (fin t)).length=g0+1+k+1∧a+(m+1)+k < Az∧p=A.length∧q=(A++c).length∧an 0 ((t.take q).drop p) p ⟨[],[],[(p,0)]⟩=some s
theorem at_neg(g:List Nat)(a:Nat)(l:List Nat)(hg:g=a::l):AG rx .idx (.seq false (gv g)) (.int (Int.negSucc 0))=some (gB g):=by
 subst hg
 have e:a::l=(a::l).dropLast++[(a::l).getLast (JE _ _)]:=(List.dropLast_concat_getLast (JE _ _)).symm
 exact DR e
theorem M0(R:Dc rx)(o:EL t)(hs:S1 t l gl co){p q:Nat}{s:A2}(L:Last rx t p q s)
  (hK:K .none (fld iw tw t 2 (some (Z8 t)) (some (ZL t)) (some (.int (.ofNat p))) (some (.int (.ofNat q))) (some (.str s.lc)) (some (gB s.sk)) (some (.seq true (bv s.br)))) h):
  AD (PQ rx) (d+2) 4 (fld iw tw t l gl co ss se lc lo br) [] h K X:=by
 obtain⟨A,c,g0,a,m,k,hA,hc,hg0,hj,hJ,hg,hgl,hlim,rfl,rfl,ha⟩:=L.out
 have hqt:(A++c).length≤t.length:=hJ.len
 have hfl:(fun P:Prop=>(l=0→P)→(l=1→P)→P) (ltI (.ofNat l) (.ofNat 2)=true):=fun h0 h1=>by
  obtain h |h:=hs
  ·exact h0 h
  ·exact h1 h.1
 have hl2:(!ltI (.ofNat l) (.ofNat 2))=false:=by rw[hfl (fun e=>by rw[e];rfl) (fun e=>by rw[e];rfl)];rfl
 have ge:Int.ofNat (gv (Vr (fin t))).length - Int.ofNat 1=Int.ofNat (g0+1+k):=by rw[C9,hgl];exact FJ _
 conv=>whnf
 refine AM (hl2) ?_
 conv=>whnf
 refine A9 (B6 (fld iw tw t l gl co ss se lc lo br)) ?_
 conv=>whnf
 refine MX o hs ?_
 conv=>whnf
 have w:=fun(Q:Out→St→Prop) (hQ:∀n,Q .next (VX (g0+1) A.length t (Vr (fin t)) (I (A++c).length) n (Bg (BD (fld iw tw t 1 (some (Z8 t)) (some (ZL t)) ss se lc lo br)) 3 (.v (.int (.ofNat 2)))) h))=>
  walk (cl:=AD (PQ rx) (d+1)) (ini:=0) (nf:=11) (X:=DQ X) (h:=h) hA hc hg0 o.len hj hQ hJ [] none none (zL _).symm hg hlim
 unfold VX I at w
 rw[←ge]at w
 refine⟨_,w _ fun n=>?_⟩
 conv=>whnf
 refine⟨_,lj R o.len hqt (fun z n m ch np=>?_) ((A++c).length - A.length) A.length ⟨[],[],[(A.length,0)]⟩ (.ofNat (g0+1)) n none none none (by rw[zd];exact zA _ _) (zw _) ha ⟨zH _,?_⟩⟩
 ·obtain⟨lc',sk,br'⟩:=s
  induction sk using zi with
  |nil=>
   conv=>whnf
   refine A9 (Z1) ?_
   conv=>whnf
   exact hK
  |cons x l'=>
   conv=>whnf
   refine A9 (at_neg _ x l' rfl) ?_
   conv=>whnf
   refine A9 (Z1) ?_
   conv=>whnf
   exact hK
 ·have:=o.len
  rw[zd]at hqt ⊢
  show 1+_ < 16777216
  lia
end
end
section
open L04 Rxm
noncomputable abbrev F2(iw tw:Nat)(t:Txt)(p q:Nat)(s:A2):List (Option Val):=
 fld iw tw t 2 (some (Z8 t)) (some (ZL t)) (some (.int (.ofNat p))) (some (.int (.ofNat q))) (some (.str s.lc)) (some (gB s.sk)) (some (.seq true (bv s.br)))
inductive Hq(iw tw:Nat)(t:Txt)(p q:Nat)(s:A2):List (Option Val)→Prop
 |one {l:Nat} {gl co ss se lc lo br:Option Val}:S1 t l gl co→Hq iw tw t p q s (fld iw tw t l gl co ss se lc lo br)
 |two:Hq iw tw t p q s (F2 iw tw t p q s)
section
variable {rx:Rx}{d iw tw:Nat}{t:Txt}{h:List Cell}{K:Val→List (Option Val)→List Cell→Prop}{X:A7→List (Option Val)→List Cell→Prop}
theorem Wf{p q:Nat}{s:A2}(hK:K .none (F2 iw tw t p q s) h):AD (PQ rx) (d+1) 4 (F2 iw tw t p q s) [] h K X:=by
 conv=>whnf
 exact hK
theorem Hf(R:Dc rx)(o:EL t){p q:Nat}{s:A2}(L:Last rx t p q s){fs:List (Option Val)}(hf:Hq iw tw t p q s fs)
  (hK:K .none (F2 iw tw t p q s) h):AD (PQ rx) (d+2) 4 fs [] h K X:=by
 induction hf using Hq.casesOn with
 |one hs=>exact M0 R o hs L hK
 |two=>exact Wf hK
noncomputable def Bl(w:Txt):Prop:=∀c∈w,cin c [32,9]=true
theorem Fi{B:Txt}{c:Nat}{v:Txt}(h:t=B++(c::v)):t[B.length]? =some c:=by
 rw[h,zU (zw _),jW];rfl
theorem IB(B:Txt)(c:Nat)(v:Txt):B++(c::v)=(B++[c])++v:=by rw[zk];rfl
theorem len_one(B:Txt)(c:Nat):(B++[c]).length=B.length+1:=zd
theorem HT{C:Cfg}{X:A7→St→Prop}{Q:Out→St→Prop}{i:Option LV}{n x:Nat}{v:Txt}{sf:List (Option LV)}(hx:cin x [32,9]=false):
  ∀(w B:Txt),Bl w→t=B++(w++x::v)→B.length+w.length < n→
  (∀j,j=B.length+w.length→Q .next ⟨[I j,some (.v (.str t)),i,I n],[],sf,h⟩)→
  C6 (Ec C X BA) (Ay C X Bx) (Ay C X Bz) Q (w.length+1) ⟨[I B.length,some (.v (.str t)),i,I n],[],sf,h⟩
 |[],B,hw,ht,hn,hQ=>by
  conv=>whnf
  refine Ap (BE hn) ?_
  conv=>whnf
  refine A9 (Co (Fi ht)) ?_
  conv=>whnf
  refine AM (hx) ?_
  conv=>whnf
  exact hQ B.length rfl
 |c::w,B,hw,ht,hn,hQ=>by
  have ht':t=B++(c::(w++x::v)):=ht
  have e:=len_one B c
  have e2:(c::w).length=w.length+1:=rfl
  have k:=HT (C:=C) (X:=X) (i:=i) (n:=n) (sf:=sf) hx w (B++[c]) (fun c h=>hw c (.tail _ h)) (by rw[ht',IB]) (by lia) (fun j hj=>hQ j (by lia))
  rw[e]at k
  conv=>whnf
  refine Ap (BE (show B.length < n by lia)) ?_
  conv=>whnf
  refine A9 (Co (Fi ht')) ?_
  conv=>whnf
  refine Ap (hw c (.head _)) ?_
  conv=>whnf
  exact k
theorem Du{A w v:Txt}(ht:t=A++(w++v)){n:Nat}(hn:n=A.length+w.length):slice t (.ofNat A.length) (.ofNat n)=w:=by
 subst hn
 have hl:=zB List.length ht
 rw[zd,zd]at hl
 show(t.take (min _ _)).drop (min _ _)=w
 rw[jd (by lia),jd (by lia),ht,JS,ju,jn,List.take_left]
theorem PX(R:Dc rx)(o:EL t){A w v:Txt}{x q:Nat}{s:A2}(L:Last rx t A.length q s){fs:List (Option Val)}(hf:Hq iw tw t A.length q s fs)
  (hw:Bl w) (hx:cin x [32,9]=false) (ht:t=A++(w++x::v)) (hq:A.length+w.length < q)
  (hK:K (.str w) (F2 iw tw t A.length q s) h):AD (PQ rx) (d+3) 8 fs [] h K X:=by
 conv=>whnf
 refine A9 (B6 fs) ?_
 conv=>whnf
 refine Hf R o L hf ?_
 conv=>whnf
 refine⟨_,HT (C:=⟨rx,AD (PQ rx) (d+2),0,11⟩) (i:=I A.length) hx w A hw ht hq fun j hj=>?_⟩
 rw[←Du ht hj]at hK
 conv=>whnf
 exact hK
theorem GP{x:Txt}{w:Nat}(h1:w+1≤1000)(h2:x.length≤16000):AG rx .expand (.str x) (.int (.ofNat (w+1)))=some (.str (expand (w+1) 0 x)):=by
 show cond (Nat.ble (w+1) 1000 && Nat.ble x.length 16000) _ _=_
 rw[zt h1,zt h2];rfl
end
end
section
open L04 Rxm
noncomputable def eqs(p lv pv c:Nat):Bool:=cond (Nat.beq lv 0) (cond (Nat.beq c 61) (cond (Nat.beq p 0) true (!cin pv [61,60,62,33])) false) false
noncomputable def Dg:Nat→Txt→Nat→Nat→Nat→Option (Option Nat)
 |0,[],_,_,_=>some none
 |_+1,[],_,_,_=>none
 |k+1,c::y,p,lv,_=>Dg k y (p+1) lv c
 |0,c::y,p,lv,pv=>
  cond (cin c [40,91,123]) (Dg 0 y (p+1) (lv+1) c)
  (cond (cin c [41,93,125]) (Dg 0 y (p+1) (lv - 1) c)
  (cond (cin c [34,39]) (match Db (c::y) p with |some e=>Dg (e - (p+1)) y (p+1) lv c |none=>none)
  (cond (Nat.beq c 35) (some none)
  (cond (eqs p lv pv c) (match y with |[]=>none |d::_=>cond (Nat.beq d 61) (Dg 0 y (p+1) lv c) (some (some p)))
  (Dg 0 y (p+1) lv c)))))
termination_by structural _ t=>t
theorem K1:∀{k:Nat} {y:Txt} {p lv pv:Nat} {r:Option Nat},Dg (k+1) y p lv pv=some r→k+1≤y.length∧∃pv',y[k]? =some pv'∧Dg 0 (y.drop (k+1)) (p+(k+1)) lv pv'=some r
 |_,[],_,_,_,_,h=>nomatch h
 |0,c::y,p,lv,pv,r,h=>⟨zN (zH _),c,rfl,h⟩
 |k+1,c::y,p,lv,pv,r,h=>by
  obtain⟨h1,pv',h2,h3⟩:=K1 (k:=k) (y:=y) (p:=p+1) (lv:=lv) (pv:=c) (r:=r) h
  exact⟨zN h1,pv',h2,by rw[show p+(k+1+1)=p+1+(k+1) by lia];exact h3⟩
theorem HZ{c:Nat}{y:Txt}{p lv pv:Nat}:Dg 0 (c::y) p lv pv=cond (cin c [40,91,123]) (Dg 0 y (p+1) (lv+1) c)
  (cond (cin c [41,93,125]) (Dg 0 y (p+1) (lv - 1) c)
  (cond (cin c [34,39]) (match Db (c::y) p with |some e=>Dg (e - (p+1)) y (p+1) lv c |none=>none)
  (cond (Nat.beq c 35) (some none)
  (cond (eqs p lv pv c) (match y with |[]=>none |d::_=>cond (Nat.beq d 61) (Dg 0 y (p+1) lv c) (some (some p)))
  (Dg 0 y (p+1) lv c))))):=by induction y using zi <;>rfl
section
variable {c:Nat}{y:Txt}{p lv pv:Nat}{r:Option Nat}
theorem f8{r:Option (Option Nat)}(h:cin c [40,91,123]=true)(ha:Dg 0 (c::y) p lv pv=r):Dg 0 y (p+1) (lv+1) c=r:=by rw[←ha,HZ,h];rfl
theorem f9{r:Option (Option Nat)}(h1:cin c [40,91,123]=false)(h:cin c [41,93,125]=true)(ha:Dg 0 (c::y) p lv pv=r):Dg 0 y (p+1) (lv - 1) c=r:=by rw[←ha,HZ,h1,h];rfl
theorem ga(h1:cin c [40,91,123]=false)(h2:cin c [41,93,125]=false)(h:cin c [34,39]=true)(ha:Dg 0 (c::y) p lv pv=some r):∃e,Db (c::y) p=some e∧Dg (e - (p+1)) y (p+1) lv c=some r:=by
 rw[HZ,h1,h2,h]at ha
 have h:(match Db (c::y) p with |some e=>Dg (e - (p+1)) y (p+1) lv c |none=>none)=some r:=ha
 induction q:Db (c::y) p using zh with
 |none=>rw[q]at h;exact nomatch h
 |some e=>rw[q]at h;exact⟨e,rfl,h⟩
theorem gc(hc:c=35)(ha:Dg 0 (c::y) p lv pv=some r):r=none:=by
 rw[HZ]at ha;subst hc;exact(ze ha).symm
theorem gf(h1:cin c [40,91,123]=false)(h2:cin c [41,93,125]=false)(h3:cin c [34,39]=false)(h4:c≠35)(ha:Dg 0 (c::y) p lv pv=some r):
  (eqs p lv pv c=false→Dg 0 y (p+1) lv c=some r)∧(eqs p lv pv c=true→∃d y',y=d::y'∧((d=61∧Dg 0 y (p+1) lv c=some r)∨(d≠61∧r=some p))):=by
 rw[HZ,h1,h2,h3,Be h4]at ha
 refine⟨fun e=>?_,fun e=>?_⟩
 ·rw[e]at ha;exact ha
 ·rw[e]at ha
  induction y using zi with
  |nil=>exact nomatch ha
  |cons d y=>
   refine⟨d,y,rfl,?_⟩
   have ha:cond (Nat.beq d 61) (Dg 0 (d::y) (p+1) lv c) (some (some p))=some r:=ha
   by_cases h:d=61
   ·rw[De h]at ha;exact .inl ⟨h,ha⟩
   ·rw[Be h]at ha;exact .inr ⟨h,(ze ha).symm⟩
end
noncomputable def sB(t:Txt)(p st e f lv:Nat)(ch:Option LV)(sf:List (Option LV))(h:List Cell):St:=
 ⟨[some (.v (.str t)),I p,I st,I e,I f,I lv,ch],[],sf,h⟩
noncomputable def Pv(t:Txt)(p pv:Nat):Prop:=p=0∨(0 < p∧t[p - 1]? =some pv)
variable {cl:EI}{ini nf:Nat}{X:A7→St→Prop}{rx:Rx}
theorem V0{C:Cfg}{K:Bool→St→Prop}{σ:St}{t:Txt}{p pv:Nat}{b:Bool}(h0:Ax σ.loc 0=some (.v (.str t)))(h1:Ax σ.loc 1=some (.v (.int (.ofNat p))))(hpv:Pv t p pv)
  (hb:cond (Nat.beq p 0) true (!cin pv [61,60,62,33])=b) (k:K b σ):
  Ec C X (.bl false (.cons (.p2 .eq (.loc 1) (.lit (.int (.ofNat 0)))) (.cons (.p2 .notin (.p2 .idx (.loc 0) (.p2 .sub (.loc 1) (.lit (.int (.ofNat 1))))) (.lit (.str [61,60,62,33]))) .nil))) K σ:=by
 show B9 (Ax σ.loc 1) _
 rw[h1]
 induction p using zE with
 |zero=>
  have e:true=b:=hb
  subst e;exact k
 |succ p=>
  refine hpv.elim (fun e=>nomatch e) fun h=>?_
  show B9 (Ax σ.loc 0) _
  rw[h0]
  show B9 (Ax σ.loc 1) _
  rw[h1]
  conv=>whnf
  refine A9 (QF (show t[p]? =some pv from h.2)) ?_
  show K (!cin pv [61,60,62,33]) σ
  rw[←hb]at k;exact k
noncomputable def fh(rx:Rx)(cl:EI)(ini nf:Nat)(X:A7→St→Prop)(Q:Out→St→Prop)(N:Nat)(σ:St):Prop:=
 C6 (Ec ⟨rx,cl,ini,nf⟩ X Bm) (Ay ⟨rx,cl,ini,nf⟩ X Bj) (Ay ⟨rx,cl,ini,nf⟩ X Bk) Q N σ
theorem eq_loop(R:Dc rx){t:Txt}{e st:Nat}{sf:List (Option LV)}{h:List Cell}{Q:Out→St→Prop}{r:Option Nat}(hl:t.length≤100000)(he:e≤t.length)
  (H0:r=none→∀i lv ch,Q .next (sB t i st e 0 lv ch sf h)) (H1:∀i,r=some i→∀lv ch,Q .next (sB t i st e 1 lv ch sf h)) (N:Nat):
  ∀(p lv pv:Nat) (ch:Option LV),p≤e→e - p≤N→Dg 0 ((t.take e).drop p) p lv pv=some r→Pv t p pv→fh rx cl ini nf X Q (N+1) (sB t p st e 0 lv ch sf h):=by
 have END:∀{N p lv pv:Nat} {ch:Option LV},e≤p→Dg 0 ((t.take e).drop p) p lv pv=some r→fh rx cl ini nf X Q (N+1) (sB t p st e 0 lv ch sf h):=by
  intro N p lv pv ch h1 ha
  rw[jL (zl (List.length_take_le e t) h1)]at ha
  conv=>whnf
  refine AM (HX h1) ?_
  conv=>whnf
  exact H0 (ze ha).symm p lv ch
 induction N with
 |zero=>exact fun p lv pv ch h1 h2 ha _=>END (Jo (Nat.le_zero.mp h2)) ha
 |succ N IH=>
  intro p lv pv ch hpq hN ha hpv
  by_cases hlt:p < e
  ·have hr:∃c y,(t.take e).drop p=c::y:=by
    induction q:(t.take e).drop p using zi with
    |nil=>exact absurd (List.drop_eq_nil_iff.mp q) (Nat.not_le_of_lt (by rw[jo,jd he];exact hlt))
    |cons c y=>exact⟨c,y,rfl⟩
   refine Aq hr fun c y hr=>?_
   refine Ao (take_drop hr hpq he) fun hd hlen=>?_
   rw[hr]at ha
   have hcp:t[p]? =some c:=JI.symm.trans (zB List.head? hd)
   have hq':p+(y.length+1)=e:=(zB (p+·) hlen).trans (jw hpq)
   have K:∀{k lv' pv' i j ch},k≤y.length→Dg 0 (y.drop k) (p+1+k) lv' pv'=some r→(k=0∧pv'=c∨∃k',k=k'+1∧y[k']? =some pv')→i=Int.ofNat (p+1+k)→j=Int.ofNat lv'→
     fh rx cl ini nf X Q (N+1) ⟨[some (.v (.str t)),some (.v (.int i)),I st,I e,I 0,some (.v (.int j)),ch],[],sf,h⟩:=by
    intro k lv' pv' i j ch hk hb hv hi hj
    have hpe:p+1+k≤e:=zl (Jc (j3 p 1 k)) (zl (zS (zN hk) p) (Jc hq'))
    rw[hi,hj]
    refine IH (p+1+k) lv' pv' ch hpe (Jp (zO (JK hlt (zO (zQ p) (zA _ _))) hN)) (by rw[←ja,←ja,hr];exact hb) (.inr ?_)
    refine hv.elim (fun hv=>?_) fun⟨k',hk',hv2⟩=>?_
    ·rw[hv.1,hv.2];exact⟨jl _,hcp⟩
    ·subst hk'
     refine⟨jl _,?_⟩
     show t[p+1+k']? =_
     rw[zT,←List.getElem?_drop,hd,jH,jy 1 k',List.getElem?_cons_succ,zM hk];exact hv2
   have K0:∀{lv' j ch},Dg 0 y (p+1) lv' c=some r→j=Int.ofNat lv'→fh rx cl ini nf X Q (N+1) ⟨[some (.v (.str t)),I (p+1),I st,I e,I 0,some (.v (.int j)),ch],[],sf,h⟩:=
    fun hb hj=>K (k:=0) (zH _) hb (.inl ⟨rfl,rfl⟩) rfl hj
   conv=>whnf
   refine Ap (BE hlt) ?_
   conv=>whnf
   refine A9 (Co hcp) ?_
   induction h1:cin c [40,91,123]using za with
   |true=>
    conv=>whnf
    refine Ap (h1) ?_
    conv=>whnf
    exact K0 (f8 h1 ha) rfl
   |false=>
    conv=>whnf
    refine AM (h1) ?_
    induction h2:cin c [41,93,125]using za with
    |true=>
     have ha:=f9 h1 h2 ha
     conv=>whnf
     refine Ap (h2) ?_
     conv=>whnf
     induction h5:Nat.beq lv 0 using za with
     |true=>
      have e0:=zD h5
      refine AM ((by show(!Nat.beq lv 0)=false;rw[h5];rfl)) ?_
      conv=>whnf
      exact K0 ha (by rw[e0])
     |false=>
      refine Ap ((by show(!Nat.beq lv 0)=true;rw[h5];rfl)) ?_
      conv=>whnf
      refine K0 ha ?_
      induction lv using zE with
      |zero=>exact Bool.noConfusion h5
      |succ l=>exact FJ l
    |false=>
     conv=>whnf
     refine AM (h2) ?_
     induction h3:cin c [34,39]using za with
     |true=>
      refine Ab (ga h1 h2 h3 ha) fun e' h4 ha=>?_
      have e3:p+1+(e' - (p+1))=e':=jw (Of h4)
      have hq:c=34∨c=39:=(Cr h3).imp id fun h=>(Cr h).elim id fun h=>Bool.noConfusion h
      show Ec ⟨rx,cl,ini,nf⟩ X (.bl false _) _ (sB t p st e 0 lv (some (.v (.str [c]))) sf h)
      refine MN rfl hq ?_
      conv=>whnf
      refine A9 (V3 R (o:=some e') (by unfold KE;rw[hr];exact h4) hpq he hl) ?_
      conv=>whnf
      induction q:e' - (p+1)using zE with
      |zero=>
       rw[q]at ha e3
       exact K (k:=0) (zH _) ha (.inl ⟨rfl,rfl⟩) (zB Int.ofNat e3.symm) rfl
      |succ k=>
       rw[q]at ha e3
       refine Ao (K1 ha) fun h5 h6=>?_
       refine Ab h6 fun pv' h6 h7=>?_
       exact K (k:=k+1) h5 h7 (.inr ⟨k,rfl,h6⟩) (zB Int.ofNat e3.symm) rfl
     |false=>
      have n34:c≠34:=fun e=>by rw[e]at h3;exact Bool.noConfusion h3
      have n39:c≠39:=fun e=>by rw[e]at h3;exact Bool.noConfusion h3
      conv=>whnf
      refine AM (CQ n34) ?_
      conv=>whnf
      refine AM (CQ n39) ?_
      conv=>whnf
      by_cases h4:c=35
      ·refine Ap (Dv h4) ?_
       conv=>whnf
       exact H0 (gc h4 ha) _ _ _
      ·refine AM (CQ h4) ?_
       refine Ao (gf h1 h2 h3 h4 ha) fun no yes=>?_
       conv=>whnf
       induction h5:Nat.beq lv 0 using za with
       |false=>
        refine AM (h5) ?_
        conv=>whnf
        exact K0 (no (by unfold eqs;rw[h5];rfl)) rfl
       |true=>
        refine Ap (h5) ?_
        conv=>whnf
        by_cases h6:c=61
        ·refine Ap (Dv h6) ?_
         have eq5:∀{b},cond (Nat.beq p 0) true (!cin pv [61,60,62,33])=b→eqs p lv pv c=b:=fun hb=>by unfold eqs;rw[h5,De h6];exact hb
         show Ec ⟨rx,cl,ini,nf⟩ X (.bl false _) _ (sB t p st e 0 lv (some (.v (.str [c]))) sf h)
         induction h8:cond (Nat.beq p 0) true (!cin pv [61,60,62,33])using za with
         |false=>
          refine V0 rfl rfl hpv h8 ?_
          conv=>whnf
          exact K0 (no (eq5 h8)) rfl
         |true=>
          refine V0 rfl rfl hpv h8 ?_
          refine A6 (yes (eq5 h8)) fun d y' ey hdd=>?_
          have hd2:t[p+1]? =some d:=by
           rw[←JI,←ja,hd,ey];rfl
          conv=>whnf
          refine A9 (Co hd2) ?_
          conv=>whnf
          refine hdd.elim (fun h=>?_) fun h=>?_
          ·refine AM ((by show(!Bt [d] [61])=false;rw[Dv h.1];rfl)) ?_
           conv=>whnf
           exact K0 h.2 rfl
          ·refine Ap ((by show(!Bt [d] [61])=true;rw[CQ h.1];rfl)) ?_
           conv=>whnf
           exact H1 p h.2 lv _
        ·refine AM (CQ h6) ?_
         conv=>whnf
         exact K0 (no (by unfold eqs;rw[h5,Be h6];rfl)) rfl
  ·exact END (Jh hlt) ha
end
section
open L04 Rxm
section
variable {rx:Rx}{d iw tw:Nat}{t:Txt}{h:List Cell}{K:Val→List (Option Val)→List Cell→Prop}{X:A7→List (Option Val)→List Cell→Prop}
theorem GH{C:Cfg}{X:A7→St→Prop}{Q:Out→St→Prop}{l2 l3 l4 l5 l6:Option LV}{x:Nat}{v:Txt}{sf:List (Option LV)}(hx:cin x [32,9]=false):
  ∀(w B:Txt),Bl w→t=B++(w++x::v)→
  (∀j,j=B.length+w.length→Q .next ⟨[some (.v (.str t)),I j,l2,l3,l4,l5,l6],[],sf,h⟩)→
  C6 (Ec C X Bp) (Ay C X Bn) (Ay C X Bo) Q (w.length+1) ⟨[some (.v (.str t)),I B.length,l2,l3,l4,l5,l6],[],sf,h⟩
 |[],B,hw,ht,hQ=>by
  conv=>whnf
  refine A9 (Co (Fi ht)) ?_
  conv=>whnf
  refine AM (hx) ?_
  conv=>whnf
  exact hQ B.length rfl
 |c::w,B,hw,ht,hQ=>by
  have ht':t=B++(c::(w++x::v)):=ht
  have e:=len_one B c
  have e2:(c::w).length=w.length+1:=rfl
  have k:=GH (C:=C) (X:=X) (sf:=sf) hx w (B++[c]) (fun c h=>hw c (.tail _ h)) (by rw[ht',IB]) (fun j hj=>hQ j (by lia))
  rw[e]at k
  conv=>whnf
  refine A9 (Co (Fi ht')) ?_
  conv=>whnf
  refine Ap (hw c (.head _)) ?_
  conv=>whnf
  exact k
theorem GI{C:Cfg}{X:A7→St→Prop}{Q:Out→St→Prop}{l2 l3 l4 l5 l6:Option LV}{x:Nat}{v:Txt}{sf:List (Option LV)}(hx:cin x [32,9,10]=true):
  ∀(w B:Txt),(∀c∈w,cin c [32,9,10]=false)→t=B++(w++x::v)→
  (∀j,j=B.length+w.length→Q .next ⟨[some (.v (.str t)),I j,l2,l3,l4,l5,l6],[],sf,h⟩)→
  C6 (Ec C X AQ) (Ay C X AO) (Ay C X AP) Q (w.length+1) ⟨[some (.v (.str t)),I B.length,l2,l3,l4,l5,l6],[],sf,h⟩
 |[],B,hw,ht,hQ=>by
  have hx':(!cin x [32,9,10])=false:=by rw[hx];rfl
  conv=>whnf
  refine A9 (Co (Fi ht)) ?_
  conv=>whnf
  refine AM (hx') ?_
  conv=>whnf
  exact hQ B.length rfl
 |c::w,B,hw,ht,hQ=>by
  have ht':t=B++(c::(w++x::v)):=ht
  have hx':(!cin c [32,9,10])=true:=by rw[hw c (.head _)];rfl
  have e:=len_one B c
  have e2:(c::w).length=w.length+1:=rfl
  have k:=GI (C:=C) (X:=X) (sf:=sf) hx w (B++[c]) (fun c h=>hw c (.tail _ h)) (by rw[ht',IB]) (fun j hj=>hQ j (by lia))
  rw[e]at k
  conv=>whnf
  refine A9 (Co (Fi ht')) ?_
  conv=>whnf
  refine Ap (hx') ?_
  conv=>whnf
  exact k
theorem ZI{rx:Rx}(R:Dc rx){x:Txt}{o:Option Nat}(h:S6 x=o)(h1:x.length≤100000):Bw rx .bs (.str x)=CL 0 o:=by
 show cond (Nat.ble x.length 100000) (CL 0 (rx.bs x)) none=_
 rw[zt h1,R.bs,h];rfl
theorem Ik(t:Txt)(a b:Int):(slice t a b).length≤t.length:=by
 show((t.take _).drop _).length≤_
 rw[z4,jo];exact zl (jJ _ _) (Nat.min_le_right _ _)
theorem Eg(R:Dc rx)(o:EL t){q:Nat}{s:A2}{A w u v y:Txt}{x e pv:Nat}{r:Option Nat}(L:Last rx t A.length q s){fs:List (Option Val)}(hf:Hq iw tw t A.length q s fs)(hk:BX (fin t)=1)
  (ht:t=A++(w++(x::(u++10::v)))) (hw:Bl w) (hx:cin x [32,9]=false) (hu:∀c∈x::u,c≠10) (he:e=A.length+w.length+(x::u).length+1)
  (hr:Dg 0 ((t.take e).drop (A.length+w.length)) (A.length+w.length) 0 pv=some r) (hpv:Pv t (A.length+w.length) pv)
  (hres:(∃i,r=some i∧S6 (slice t (.ofNat (i+1)) (.ofNat e))=none∧slice t (.ofNat A.length) (.ofNat (i+1))=w++y)∨
   ((r=none∨∃i k,r=some i∧S6 (slice t (.ofNat (i+1)) (.ofNat e))=some k)∧∃b v',x::(u++10::v)=y++b::v'∧(∀c∈y,cin c [32,9,10]=false)∧cin b [32,9,10]=true))
  (hlen:(w++y).length≤16000) (htw:1≤tw) (htw2:tw≤1000)
  (hK:K (.int (.ofNat ((expand tw 0 (w++y)).length+1))) (F2 iw tw t A.length q s) h):AD (PQ rx) (d+3) 7 fs [] h K X:=by
 have hl:=zB List.length ht
 have hxu:(x::u).length=u.length+1:=rfl
 have hcs:(x::(u++10::v)).length=u.length+v.length+2:=by rw[zy,zd,zy];lia
 rw[zd,zd,hcs]at hl
 have hd:t.drop (A.length+w.length)=(x::u)++10::v:=by rw[ht,←ja,ju,ju];rfl
 have hee:Di [10] t (A.length+w.length) t.length+Int.ofNat 1=Int.ofNat e:=by
  rw[Qs hd hu,he];rfl
 induction tw using zE with
 |zero=>lia
 |succ tw=>
  conv=>whnf
  refine A9 (B6 fs) ?_
  conv=>whnf
  refine Hf R o L hf ?_
  conv=>whnf
  refine Ap (De hk) ?_
  conv=>whnf
  refine⟨_,GH (C:=⟨rx,AD (PQ rx) (d+2),0,11⟩) hx w A hw ht fun j hj=>?_⟩
  subst hj
  conv=>whnf
  have w2:=fun(Q:Out→St→Prop) H0 H1=>eq_loop (cl:=AD (PQ rx) (d+2)) (ini:=0) (nf:=11) (X:=DQ X) (Q:=Q) (st:=A.length+w.length) (sf:=BD (F2 iw (tw+1) t A.length q s)) (h:=h) R o.len (e:=e) (by lia) H0 H1 (e - (A.length+w.length)) (A.length+w.length) 0 pv none (by lia) (zw _) hr hpv
  unfold sB I at w2
  rw[←hee]at w2 hres
  have none':∀{Q:Out→St→Prop} {e' f l5 l6:Option LV},(∃b v',x::(u++10::v)=y++b::v'∧(∀c∈y,cin c [32,9,10]=false)∧cin b [32,9,10]=true)→
    (∀j,slice t (.ofNat A.length) (.ofNat j)=w++y→Q .next ⟨[some (.v (.str t)),I j,I (A.length+w.length),e',f,l5,l6],[],BD (F2 iw (tw+1) t A.length q s),h⟩)→
    Vx (Ec ⟨rx,AD (PQ rx) (d+2),0,11⟩ (DQ X) AQ) (Ay ⟨rx,AD (PQ rx) (d+2),0,11⟩ (DQ X) AO) (Ay ⟨rx,AD (PQ rx) (d+2),0,11⟩ (DQ X) AP) Q
     ⟨[some (.v (.str t)),I (A.length+w.length),I (A.length+w.length),e',f,l5,l6],[],BD (F2 iw (tw+1) t A.length q s),h⟩:=by
   rintro Q e' f l5 l6 ⟨b,v',h1,h2,h3⟩ hQ
   have ht2:t=(A++w)++(y++b::v'):=by rw[ht,h1,zk]
   have hAw:(A++w).length=A.length+w.length:=zd
   rw[←hAw]
   refine⟨_,GI (C:=⟨rx,AD (PQ rx) (d+2),0,11⟩) h3 y (A++w) h2 ht2 fun j hj=>?_⟩
   rw[hAw]
   refine hQ j (Du (v:=b::v') (by rw[ht2];simp only[zk]) ?_)
   rw[zd,hj,hAw,zT]
  refine⟨_,w2 _ (fun hr0 i lv ch=>?_) (fun i hri lv ch=>?_)⟩
  ·obtain⟨i,h1,h2⟩ |⟨h1,h2⟩:=hres
   ·rw[hr0]at h1;exact nomatch h1
   ·conv=>whnf
    refine none' h2 fun j hj=>?_
    rw[←hj]at hK hlen
    conv=>whnf
    refine A9 (GP htw2 hlen) ?_
    conv=>whnf
    exact hK
  ·obtain⟨i',h1,h2,h3⟩ |⟨h1,h2⟩:=hres
   ·rw[hri]at h1
    cases ze h1
    rw[←h3]at hK hlen
    conv=>whnf
    refine A9 (ZI R h2 (zl (Ik _ _ _) o.len)) ?_
    conv=>whnf
    refine A9 (GP htw2 hlen) ?_
    conv=>whnf
    exact hK
   ·obtain h1 |⟨i',k,h1,h3⟩:=h1
    ·rw[hri]at h1;exact nomatch h1
    ·rw[hri]at h1
     cases ze h1
     conv=>whnf
     refine A9 (ZI R h3 (zl (Ik _ _ _) o.len)) ?_
     conv=>whnf
     refine none' h2 fun j hj=>?_
     rw[←hj]at hK hlen
     conv=>whnf
     refine A9 (GP htw2 hlen) ?_
     conv=>whnf
     exact hK
end
end
section
open L04 Rxm
noncomputable def LO(a:A1)(t:Txt):A1:=run a (t.map CY)
theorem LP(a:A1)(x y:Txt):LO a (x++y)=LO (LO a x) y:=by
 unfold LO;rw[jm,Gz]
noncomputable def nl:Txt→Nat
 |[]=>0
 |c::r=>cond (Nat.beq c 10) (nl r+1) (nl r)
theorem Rm:∀x y:Txt,nl (x++y)=nl x+nl y
 |[],y=>(jD _).symm
 |c::x,y=>by
  show cond (Nat.beq c 10) (nl (x++y)+1) (nl (x++y))=cond (Nat.beq c 10) (nl x+1) (nl x)+nl y
  rw[Rm x y]
  induction Nat.beq c 10 using za with
  |true=>exact(by lia:nl x+nl y+1=nl x+1+nl y)
  |false=>rfl
noncomputable def endsN:Txt→Bool→Bool
 |[],f=>f
 |c::r,_=>endsN r (Nat.beq c 10)
theorem GL:∀(u:Txt) (f:Bool),endsN (u++[10]) f=true
 |[],_=>rfl
 |c::u,_=>GL u _
theorem Q2:∀(c u b:Txt) (m:Nat) (f:Bool),Ln m b→(∀x∈u,x≠10)→(f=true→u=[])→endsN c f=true→Ln (m+nl c) (b++(u++c))
 |[],u,b,m,f,hb,_,hf,h=>by rw[hf h];show Ln m (b++[]);rw[zL];exact hb
 |c::r,u,b,m,f,hb,hu,hf,h=>by
  by_cases hc:c=10
  ·subst hc
   have k:=Q2 r [] (b++(u++[10])) (m+1) true (hb.snoc hu) (fun _ h=>nomatch h) (fun _=>rfl) h
   have e:(b++(u++[10]))++([]++r)=b++(u++10::r):=by simp only[zk,jH,j8]
   rw[e]at k
   show Ln (m+(nl r+1)) _
   rw[show m+(nl r+1)=m+1+nl r by lia];exact k
  ·have k:=Q2 r (u++[c]) b m (Nat.beq c 10) hb (fun x hx=>by
    induction zF.mp hx using jI with
    |inl h=>exact hu x h
    |inr h=>rw[zI.mp h];exact hc) (fun h'=>absurd (zD h') hc) h
   have e:(u++[c])++r=u++c::r:=by rw[zk];rfl
   rw[e]at k
   show Ln (m+cond (Nat.beq c 10) (nl r+1) (nl r)) _
   rw[Be hc];exact k
theorem TN(u:Txt):Ln (nl u+1) (u++[10]):=by
 have k:=Q2 (u++[10]) [] [] 0 true .nil (fun _ h=>nomatch h) (fun _=>rfl) (GL u true)
 rw[jD,Rm]at k
 exact k
theorem aD:∀x:Txt,nl x≤x.length:=fun x=>by
 induction x with
 |nil=>exact zw _
 |cons c x ih=>
  show cond (Nat.beq c 10) (nl x+1) (nl x)≤x.length+1
  induction Nat.beq c 10 using za with
  |true=>exact zN ih
  |false=>exact jx ih
structure Ef(a:Txt):Prop where
 ends:Ends a
 run:∃n G,n≤a.length∧LO FQ a=⟨.nm false,0,n,G++[n]⟩
theorem Ef.nil:Ef []:=⟨.inl rfl,0,[],zw _,rfl⟩
structure Item(p:Txt):Prop where
 ends:∃u,p=u++[10]
 run:∃k,k≤p.length∧∀n g,LO ⟨.nm false,0,n,g⟩ p=⟨.nm false,0,n+k,g++[n+k]⟩
theorem Ef.snoc{a p:Txt}(h:Ef a)(i:Item p):Ef (a++p) where
 ends:=by
  obtain⟨u,e⟩:=i.ends
  exact .inr ⟨a++u,by rw[e,zk]⟩
 run:=by
  obtain⟨n,G,h1,h2⟩:=h.run
  obtain⟨k,h3,h4⟩:=i.run
  exact⟨n+k,G++[n],by rw[zd];lia,by rw[LP,h2,h4]⟩
structure SQ(w y r:Txt):Prop where
 bl:Bl w
 run:∃u,w++(y++r)=u++[10]∧∀n g,LO ⟨.nm false,0,n,g⟩ (u++[10])=⟨.nm true,0,n+nl u+1,g⟩
 an:∀p,∃s,an 0 (w++(y++r)) p ⟨[],[],[(p,0)]⟩=some s
 x:∃x v,y=x::v∧cin x [32,9]=false∧HW x=false∧(x==10)=false∧(x==35)=false
 len:(w++(y++r)).length≤40
 asc:AC 128 (w++(y++r))=true
theorem TJ{rx:Rx}{t a w y r:Txt}(R:Dc rx)(A:Ef a)(S:SQ w y r)(ht:t=a++(w++(y++r)))(hl:t.length≤10000)
  (hj:E0 t a.length=none):∃s,Last rx t a.length t.length s∧BX (fin t)=1:=by
 obtain⟨n,G,hn,e⟩:=A.run
 obtain⟨u,eu,hr⟩:=S.run
 obtain⟨s,hs⟩:=S.an a.length
 rw[eu]at ht hs
 have hfin:fin t=⟨.nm true,0,n+nl u+1,G++[n]⟩:=by
  show LO FQ t=_
  rw[ht,LP,e,hr]
 have hg:Vr (fin t)=G++[n,n+(nl u+1)]:=by
  rw[hfin]
  show(G++[n])++[n+nl u+1]=_
  rw[zk,zT];rfl
 have h1:=aD u
 have h2:=zB List.length ht
 rw[zd,zd]at h2
 refine⟨s,⟨a,u++[10],G.length,n,nl u,0,A.ends,TN u,by rw[hg,zU (zw _),jW];rfl,by rw[R.junk];exact hj,by rw[←ht];exact .nil,fun j hj=>?_,by rw[hg,zd];rfl,by show n+(nl u+1)+0 < 16777216;lia,rfl,by rw[←ht],?_⟩,by rw[hfin];rfl⟩
 ·cases Nat.le_zero.mp hj
  rw[hg,zU (zV _),show G.length+1+0 - G.length=1 by lia];rfl
 ·rw[List.take_length,ht,ju];exact hs
theorem LX{a:Nat→Bool}{x:Nat}{v:Txt}(hx:a x=false):∀{w:Txt},(∀c∈w,a c=true)→Af a (w++x::v)=w.length
 |[],_=>by show cond (a x) _ 0=0;rw[hx];rfl
 |c::w,h=>by
  show cond (a c) (Af a (w++x::v)+1) 0=w.length+1
  rw[h c (.head _),LX hx fun c h'=>h c (.tail _ h')];rfl
theorem Wt{w:Txt}(h:Bl w):∀c∈w,HW c=true:=fun c hc=>by
 have e:=Nu (h c hc)
 cases e with
 |head=>rfl
 |tail _ e=>cases e with
  |head=>rfl
  |tail _ e=>exact nomatch e
theorem TC{T A w y r:Txt}(S:SQ w y r)(ht:T=A++(w++(y++r))):E0 T A.length=none:=by
 obtain⟨x,v,e,_,h2,h3,h4⟩:=S.x
 rw[e]at ht
 have ht:T=A++(w++x::(v++r)):=ht
 unfold E0
 rw[ht,ju,LX h2 (Wt S.bl),ju]
 show cond (x==10) _ (cond (x==35) _ none)=none
 rw[h3,h4];rfl
theorem D0{n:Nat}:∀{x y:Txt},AC n x=true→AC n y=true→AC n (x++y)=true
 |[],_,_,h=>h
 |c::x,y,h1,h2=>by
  have h1:cond (Nat.blt c n) (AC n x) false=true:=h1
  have h:=condT h1
  show cond (Nat.blt c n) (AC n (x++y)) false=true
  rw[h.1];exact D0 h.2 h2
theorem X9(T:Txt)(p:Nat)(h:p≤T.length):∃pv,Pv T p pv:=by
 induction p using zE with
 |zero=>exact⟨0,.inl rfl⟩
 |succ n=>
  exact⟨T[n],.inr ⟨jl _,jc (by lia)⟩⟩
noncomputable def Zh(y r:Txt):Prop:=∃l v,y++r=l++10::v∧(∀c∈l,c≠10)∧∀pos pv,
 ((∃z,l=y++z∧S6 (z++[10])=none∧Dg 0 (l++[10]) pos 0 pv=some (some (pos+y.length - 1)))∨
  (Dg 0 (l++[10]) pos 0 pv=some none∧(∀c∈y,cin c [32,9,10]=false)∧∃b v',r=b::v'∧cin b [32,9,10]=true))
section
variable {rx:Rx}{d iw tw:Nat}{t a w y r:Txt}{h:List Cell}{K:Val→List (Option Val)→List Cell→Prop}{X:A7→List (Option Val)→List Cell→Prop}{s:A2}{fs:List (Option Val)}
theorem S4(R:Dc rx)(o:EL t)(L:Last rx t a.length t.length s)(hk:BX (fin t)=1)(S:SQ w y r)(hs:Zh y r)(ht:t=a++(w++(y++r)))(htw:1≤tw)(htw2:tw≤1000)
  (hf:Hq iw tw t a.length t.length s fs) (hK:K (.int (.ofNat ((expand tw 0 (w++y)).length+1))) (F2 iw tw t a.length t.length s) h):AD (PQ rx) (d+3) 7 fs [] h K X:=by
 obtain⟨x,v0,ex,hx,_,hx10,_⟩:=S.x
 obtain⟨l,v,el,hl,hsg⟩:=hs
 have hlen:=S.len
 rw[zd,zd]at hlen
 have hx10':x≠10:=fun e=>by rw[e]at hx10;exact Bool.noConfusion hx10
 obtain⟨l',el'⟩:∃l',l=x::l':=by
  rw[ex]at el
  cases l with
  |nil=>exact absurd (z9 el).1 hx10'
  |cons c l'=>exact⟨l',by rw[←(z9 el).1]⟩
 have ht1:t=a++(w++(x::(l'++10::v))):=by rw[ht,el,el'];rfl
 have hlt:=zB List.length ht1
 simp only[zd,zy]at hlt
 obtain⟨pv,hpv⟩:=X9 t (a.length+w.length) (by lia)
 have hdr:(t.take (a.length+w.length+(x::l').length+1)).drop (a.length+w.length)=l++[10]:=by
  have e1:t.drop (a.length+w.length)=(x::l')++10::v:=by rw[ht1,←ja,ju,ju];rfl
  rw[JS,e1,show a.length+w.length+(x::l').length+1 - (a.length+w.length)=(x::l').length+1 by lia,List.take_length_add_append,el']
  simp only[List.take_succ_cons,List.take_zero]
 have hy:0 < y.length:=by rw[ex];exact jl _
 obtain⟨z,ez,hz,hb⟩ |⟨hb,hy2,b,v',er,hb'⟩:=hsg (a.length+w.length) pv
 ·rw[←hdr]at hb
  have hi2:a.length+w.length+y.length - 1+1=(a++(w++y)).length:=by rw[zd,zd];lia
  have hll:=zB List.length ez
  rw[el',zd]at hll
  refine Eg R o (y:=y) L hf hk ht1 S.bl hx (el'▸hl) rfl hb hpv (.inl ⟨_,rfl,?_,?_⟩) (by rw[zd];lia) htw htw2 hK
  ·rw[hi2]
   have e2:slice t (.ofNat (a++(w++y)).length) (.ofNat (a.length+w.length+(x::l').length+1))=z++[10]:=by
    refine Du (v:=v) ?_ ?_
    ·rw[ht,el,ez];simp only[zk,jH,j8]
    ·simp only[zd,zy,JH]at hll ⊢;lia
   rw[e2];exact hz
  ·refine Du (v:=r) (by rw[ht];simp only[zk]) ?_
   rw[hi2,zd]
 ·rw[←hdr]at hb
  exact Eg R o (y:=y) L hf hk ht1 S.bl hx (el'▸hl) rfl hb hpv (.inr ⟨.inl rfl,b,v',by rw[←er,el,el'];rfl,hy2,hb'⟩) (by rw[zd];lia) htw htw2 hK
theorem S5(R:Dc rx)(o:EL t)(L:Last rx t a.length t.length s)(S:SQ w y r)(ht:t=a++(w++(y++r)))
  (hf:Hq iw tw t a.length t.length s fs) (hK:K (.str w) (F2 iw tw t a.length t.length s) h):AD (PQ rx) (d+3) 8 fs [] h K X:=by
 obtain⟨x,v0,ex,hx,_⟩:=S.x
 have ht1:t=a++(w++x::(v0++r)):=by rw[ht,ex];rfl
 have hl:=zB List.length ht1
 simp only[zd,zy]at hl
 exact PX R o L hf S.bl hx ht1 (by lia) hK
end
end
section
open L04 Rxm
noncomputable def FR:List (List (Txt×Bool)):=[[([119,104,105,108,101,32,97,58,10],false)],[([32,32,32,32,98,32,61,32,99,10],false)],[([100,101,102,32,102,40,97,44,10,32,32,32,32,32,32,98,41,58,10],false)],[([32,32,32,32,114,101,116,117,114,110,32],false),([39,39,39,10,101,108,115,101,58,10,39,39,39],true),([10],false)],[([35,120,32,61,32,121,10],false)],[([99,108,97,115,115,32,67,58,10],false)],[([120,32,61,32],false),([34,34,34,100,101,102,32,103,40,41,58,10,34,34,34],true),([10],false)],[([10],false)],[([116,114,121,58,10],false)],[([121,32,61,32,97,32,92,10,32,32,43,32,98,10],false)],[([9,121,105,101,108,100,32,97,10],false)],[([115,32,61,32],false),([39,39,39,10,32,32,114,97,105,115,101,32,98,10,9,116,114,121,58,10,39,39,39],true),([10],false)]]
noncomputable def GU:List (Txt×Txt):=[([120,32,61],[32,121,32,92,10]),([114,101,116,117,114,110],[32,97,32,61,61,32,98,32,92,10]),([97,115,115,101,114,116],[32,40,99,61,49,41,32,92,10,32,32,105,110,32,100,32,92,10]),([101,108,105,102],[32,97,91,39,61,39,93,32,92,10,9,111,114,32,98,32,61,32,99,32,92,10]),([102,40,97,61,98,41,91,48,93,32,61],[32,39,120,39,32,92,10]),([114,97,105,115,101],[32,92,10,32,32,101,32,92,10])]
noncomputable def FM:List Txt:=[[],[32,32],[9]]
noncomputable def tx:List (Txt×Bool)→Txt
 |[]=>[]
 |p::r=>p.1++tx r
noncomputable def fg:List (Txt×Bool)→List Bool
 |[]=>[]
 |p::r=>List.replicate p.1.length p.2++fg r
noncomputable def pv(ps:List (Txt×Bool)):Val:=.seq false (ps.map fun p=>.seq true [.str p.1,.bool p.2])
theorem QO:E3=.seq false (FR.map pv):=rfl
noncomputable def QR(r:Txt):Bool:=Hg.any fun w=>pre? w (r.drop (Af HW r))
noncomputable def Mm(z:Txt):Bool→Txt→List Bool→Bool
 |_,[],_=>true
 |_,_::_,[]=>false
 |b,c::r,f::fs=>(cond b (cond (QR (c::(r++z))) f true) true) && Mm z (Nat.beq c 10) r fs
structure It(ps:List (Txt×Bool)):Prop where
 i:Item (tx ps)
 asc:AC 128 (tx ps)=true
 len:(tx ps).length≤40
 chk:∀z,Mm z false (tx ps) (fg ps)=true
 cut:∀p∈ps,p.1.length≤40
theorem Xf:∀ps∈FR,It ps:=by
 have k:(∀ps∈FR,AC 128 (tx ps)=true∧(tx ps).length≤40∧∀p∈ps,p.1.length≤40):=by decide+kernel
 have m:∀{ps:List (Txt×Bool)},ps∈FR→Item (tx ps)→(∀z,Mm z false (tx ps) (fg ps)=true)→It ps:=fun h i c=>⟨i,(k _ h).1,(k _ h).2.1,c,(k _ h).2.2⟩
 exact zo.mpr ⟨m (by decide) ⟨⟨[119,104,105,108,101,32,97,58],rfl⟩,1,by decide,fun _ _=>rfl⟩ (fun _=>rfl),zo.mpr ⟨m (by decide) ⟨⟨[32,32,32,32,98,32,61,32,99],rfl⟩,1,by decide,fun _ _=>rfl⟩ (fun _=>rfl),zo.mpr ⟨m (by decide) ⟨⟨[100,101,102,32,102,40,97,44,10,32,32,32,32,32,32,98,41,58],rfl⟩,2,by decide,fun _ _=>rfl⟩ (fun _=>rfl),zo.mpr ⟨m (by decide) ⟨⟨[32,32,32,32,114,101,116,117,114,110,32,39,39,39,10,101,108,115,101,58,10,39,39,39],rfl⟩,3,by decide,fun _ _=>rfl⟩ (fun _=>rfl),zo.mpr ⟨m (by decide) ⟨⟨[35,120,32,61,32,121],rfl⟩,1,by decide,fun _ _=>rfl⟩ (fun _=>rfl),zo.mpr ⟨m (by decide) ⟨⟨[99,108,97,115,115,32,67,58],rfl⟩,1,by decide,fun _ _=>rfl⟩ (fun _=>rfl),zo.mpr ⟨m (by decide) ⟨⟨[120,32,61,32,34,34,34,100,101,102,32,103,40,41,58,10,34,34,34],rfl⟩,2,by decide,fun _ _=>rfl⟩ (fun _=>rfl),zo.mpr ⟨m (by decide) ⟨⟨[],rfl⟩,1,by decide,fun _ _=>rfl⟩ (fun _=>rfl),zo.mpr ⟨m (by decide) ⟨⟨[116,114,121,58],rfl⟩,1,by decide,fun _ _=>rfl⟩ (fun _=>rfl),zo.mpr ⟨m (by decide) ⟨⟨[121,32,61,32,97,32,92,10,32,32,43,32,98],rfl⟩,2,by decide,fun _ _=>rfl⟩ (fun _=>rfl),zo.mpr ⟨m (by decide) ⟨⟨[9,121,105,101,108,100,32,97],rfl⟩,1,by decide,fun _ _=>rfl⟩ (fun _=>rfl),zo.mpr ⟨m (by decide) ⟨⟨[115,32,61,32,39,39,39,10,32,32,114,97,105,115,101,32,98,10,9,116,114,121,58,10,39,39,39],rfl⟩,4,by decide,fun _ _=>rfl⟩ (fun _=>rfl),fun _ h=>nomatch h⟩⟩⟩⟩⟩⟩⟩⟩⟩⟩⟩⟩
noncomputable def Pw(y:Txt)(pos:Nat):Prop:=∀s:A2,∃s',an 0 y pos s=some s'
theorem Nl:∀(r y:Txt) (p:Nat) (s:A2),an r.length (r++y) p s=an 0 y (p+r.length) s
 |[],_,_,_=>rfl
 |c::r,y,p,s=>by
  show an r.length (r++y) (p+1) s=_
  rw[Nl r y (p+1) s,zy,zT,jy 1]
theorem Pw.st{c pos:Nat}{r y:Txt}(hc:c=34∨c=39)(hs:Db (c::(r++y)) pos=some (pos+1+r.length))(h:Pw y (pos+1+r.length)):Pw (c::(r++y)) pos:=fun s=>by
 have e:an 0 (c::(r++y)) pos s=(match Db (c::(r++y)) pos with |some e=>an (e - (pos+1)) (r++y) (pos+1) ⟨[c],s.sk,s.br++[(pos,s.sk.length+1),(e,s.sk.length)]⟩ |none=>none):=by
  rw[Me]
  obtain rfl |rfl:=hc <;>rfl
 rw[e,hs]
 show∃s',an (pos+1+r.length - (pos+1)) (r++y) (pos+1) _=some s'
 rw[jn,Nl]
 exact h _
noncomputable def lU(q:Txt):Bool:=q.all fun c=> !(cin c [34,39] || (cin c [35] || cin c [92]))
theorem Dw{y:Txt}:∀{q:Txt} {pos:Nat},lU q=true→Pw y (pos+q.length)→Pw (q++y) pos
 |[],_,_,h=>h
 |c::q,pos,hq,h=>fun s=>by
  have h1:=zz.mp (jP.symm.trans hq)
  have h2:=jS.mp ((JC _).mp h1.1)
  have h3:=jS.mp h2.2
  have ih:Pw (q++y) (pos+1):=Dw h1.2 (by rw[zy]at h;rw[zT,jy 1];exact h)
  show∃s',an 0 (c::(q++y)) pos s=some s'
  rw[Me,h2.1,h3.1,h3.2]
  induction cin c [40,91,123]using za with
  |true=>exact ih _
  |false=>induction cin c [41,93,125]using za with
   |true=>exact ih _
   |false=>exact ih _
theorem fR:∀(y:Txt) (pos:Nat),Db (39::([61,39]++y)) pos=some (pos+1+2)
 |[],_=>rfl
 |_::_,_=>rfl
theorem iG:∀(y:Txt) (pos:Nat),Db (39::([120,39]++y)) pos=some (pos+1+2)
 |[],_=>rfl
 |_::_,_=>rfl
theorem b_{w:Txt}(h:(w.all fun c=>cin c [32,9])=true):Bl w:=fun c hc=>zR.mp h c hc
theorem TR:∀w∈FM,∀p∈GU,SQ w p.1 p.2:=zo.mpr ⟨zo.mpr ⟨⟨b_ rfl,⟨[120,32,61,32,121,32,92],rfl,fun _ _=>rfl⟩,fun p=>⟨_,rfl⟩,⟨120,_,rfl,rfl,rfl,rfl,rfl⟩,by decide,rfl⟩,zo.mpr ⟨⟨b_ rfl,⟨[114,101,116,117,114,110,32,97,32,61,61,32,98,32,92],rfl,fun _ _=>rfl⟩,fun p=>⟨_,rfl⟩,⟨114,_,rfl,rfl,rfl,rfl,rfl⟩,by decide,rfl⟩,zo.mpr ⟨⟨b_ rfl,⟨[97,115,115,101,114,116,32,40,99,61,49,41,32,92,10,32,32,105,110,32,100,32,92],rfl,fun _ _=>rfl⟩,fun p=>⟨_,rfl⟩,⟨97,_,rfl,rfl,rfl,rfl,rfl⟩,by decide,rfl⟩,zo.mpr ⟨⟨b_ rfl,⟨[101,108,105,102,32,97,91,39,61,39,93,32,92,10,9,111,114,32,98,32,61,32,99,32,92],rfl,fun _ _=>rfl⟩,fun p=>Dw (q:=[101,108,105,102,32,97,91]) rfl (Pw.st (r:=[61,39]) (.inr rfl) (fR _ _) fun _=>⟨_,rfl⟩) _,⟨101,_,rfl,rfl,rfl,rfl,rfl⟩,by decide,rfl⟩,zo.mpr ⟨⟨b_ rfl,⟨[102,40,97,61,98,41,91,48,93,32,61,32,39,120,39,32,92],rfl,fun _ _=>rfl⟩,fun p=>Dw (q:=[102,40,97,61,98,41,91,48,93,32,61,32]) rfl (Pw.st (r:=[120,39]) (.inr rfl) (iG _ _) fun _=>⟨_,rfl⟩) _,⟨102,_,rfl,rfl,rfl,rfl,rfl⟩,by decide,rfl⟩,zo.mpr ⟨⟨b_ rfl,⟨[114,97,105,115,101,32,92,10,32,32,101,32,92],rfl,fun _ _=>rfl⟩,fun p=>⟨_,rfl⟩,⟨114,_,rfl,rfl,rfl,rfl,rfl⟩,by decide,rfl⟩,fun _ h=>nomatch h⟩⟩⟩⟩⟩⟩,zo.mpr ⟨zo.mpr ⟨⟨b_ rfl,⟨[32,32,120,32,61,32,121,32,92],rfl,fun _ _=>rfl⟩,fun p=>⟨_,rfl⟩,⟨120,_,rfl,rfl,rfl,rfl,rfl⟩,by decide,rfl⟩,zo.mpr ⟨⟨b_ rfl,⟨[32,32,114,101,116,117,114,110,32,97,32,61,61,32,98,32,92],rfl,fun _ _=>rfl⟩,fun p=>⟨_,rfl⟩,⟨114,_,rfl,rfl,rfl,rfl,rfl⟩,by decide,rfl⟩,zo.mpr ⟨⟨b_ rfl,⟨[32,32,97,115,115,101,114,116,32,40,99,61,49,41,32,92,10,32,32,105,110,32,100,32,92],rfl,fun _ _=>rfl⟩,fun p=>⟨_,rfl⟩,⟨97,_,rfl,rfl,rfl,rfl,rfl⟩,by decide,rfl⟩,zo.mpr ⟨⟨b_ rfl,⟨[32,32,101,108,105,102,32,97,91,39,61,39,93,32,92,10,9,111,114,32,98,32,61,32,99,32,92],rfl,fun _ _=>rfl⟩,fun p=>Dw (q:=[32,32,101,108,105,102,32,97,91]) rfl (Pw.st (r:=[61,39]) (.inr rfl) (fR _ _) fun _=>⟨_,rfl⟩) _,⟨101,_,rfl,rfl,rfl,rfl,rfl⟩,by decide,rfl⟩,zo.mpr ⟨⟨b_ rfl,⟨[32,32,102,40,97,61,98,41,91,48,93,32,61,32,39,120,39,32,92],rfl,fun _ _=>rfl⟩,fun p=>Dw (q:=[32,32,102,40,97,61,98,41,91,48,93,32,61,32]) rfl (Pw.st (r:=[120,39]) (.inr rfl) (iG _ _) fun _=>⟨_,rfl⟩) _,⟨102,_,rfl,rfl,rfl,rfl,rfl⟩,by decide,rfl⟩,zo.mpr ⟨⟨b_ rfl,⟨[32,32,114,97,105,115,101,32,92,10,32,32,101,32,92],rfl,fun _ _=>rfl⟩,fun p=>⟨_,rfl⟩,⟨114,_,rfl,rfl,rfl,rfl,rfl⟩,by decide,rfl⟩,fun _ h=>nomatch h⟩⟩⟩⟩⟩⟩,zo.mpr ⟨zo.mpr ⟨⟨b_ rfl,⟨[9,120,32,61,32,121,32,92],rfl,fun _ _=>rfl⟩,fun p=>⟨_,rfl⟩,⟨120,_,rfl,rfl,rfl,rfl,rfl⟩,by decide,rfl⟩,zo.mpr ⟨⟨b_ rfl,⟨[9,114,101,116,117,114,110,32,97,32,61,61,32,98,32,92],rfl,fun _ _=>rfl⟩,fun p=>⟨_,rfl⟩,⟨114,_,rfl,rfl,rfl,rfl,rfl⟩,by decide,rfl⟩,zo.mpr ⟨⟨b_ rfl,⟨[9,97,115,115,101,114,116,32,40,99,61,49,41,32,92,10,32,32,105,110,32,100,32,92],rfl,fun _ _=>rfl⟩,fun p=>⟨_,rfl⟩,⟨97,_,rfl,rfl,rfl,rfl,rfl⟩,by decide,rfl⟩,zo.mpr ⟨⟨b_ rfl,⟨[9,101,108,105,102,32,97,91,39,61,39,93,32,92,10,9,111,114,32,98,32,61,32,99,32,92],rfl,fun _ _=>rfl⟩,fun p=>Dw (q:=[9,101,108,105,102,32,97,91]) rfl (Pw.st (r:=[61,39]) (.inr rfl) (fR _ _) fun _=>⟨_,rfl⟩) _,⟨101,_,rfl,rfl,rfl,rfl,rfl⟩,by decide,rfl⟩,zo.mpr ⟨⟨b_ rfl,⟨[9,102,40,97,61,98,41,91,48,93,32,61,32,39,120,39,32,92],rfl,fun _ _=>rfl⟩,fun p=>Dw (q:=[9,102,40,97,61,98,41,91,48,93,32,61,32]) rfl (Pw.st (r:=[120,39]) (.inr rfl) (iG _ _) fun _=>⟨_,rfl⟩) _,⟨102,_,rfl,rfl,rfl,rfl,rfl⟩,by decide,rfl⟩,zo.mpr ⟨⟨b_ rfl,⟨[9,114,97,105,115,101,32,92,10,32,32,101,32,92],rfl,fun _ _=>rfl⟩,fun p=>⟨_,rfl⟩,⟨114,_,rfl,rfl,rfl,rfl,rfl⟩,by decide,rfl⟩,fun _ h=>nomatch h⟩⟩⟩⟩⟩⟩,fun _ h=>nomatch h⟩⟩⟩
theorem K2:∀(r y:Txt) (p lv pv:Nat),∃pv',Dg r.length (r++y) p lv pv=Dg 0 y (p+r.length) lv pv'
 |[],_,_,_,pv=>⟨pv,rfl⟩
 |c::r,y,p,lv,pv=>by
  obtain⟨pv',e⟩:=K2 r y (p+1) lv c
  refine⟨pv',?_⟩
  show Dg r.length (r++y) (p+1) lv c=_
  rw[e,zy,zT,jy 1]
theorem Wv{c pos lv pv:Nat}{r y:Txt}(hc:c=34∨c=39)(hs:Db (c::(r++y)) pos=some (pos+1+r.length)):∃pv',Dg 0 (c::(r++y)) pos lv pv=Dg 0 y (pos+1+r.length) lv pv':=by
 have e:Dg 0 (c::(r++y)) pos lv pv=(match Db (c::(r++y)) pos with |some e=>Dg (e - (pos+1)) (r++y) (pos+1) lv c |none=>none):=by
  rw[HZ]
  obtain rfl |rfl:=hc <;>rfl
 rw[e,hs]
 show∃pv',Dg (pos+1+r.length - (pos+1)) (r++y) (pos+1) lv c=_
 rw[jn]
 exact K2 r y (pos+1) lv c
theorem Zi{w:Txt}(h:(w.all fun c=> !Nat.beq c 10)=true):∀c∈w,c≠10:=fun c hc e=>by
 have:=zR.mp h c hc
 rw[e]at this;exact Bool.noConfusion this
theorem nb{w:Txt}(h:(w.all fun c=> !cin c [32,9,10])=true):∀c∈w,cin c [32,9,10]=false:=fun c hc=>(JC _).mp (zR.mp h c hc)
theorem UD:∀p∈GU,Zh p.1 p.2:=zo.mpr ⟨⟨[120,32,61,32,121,32,92],[],rfl,Zi rfl,fun _ _=>.inl ⟨[32,121,32,92],rfl,rfl,rfl⟩⟩,zo.mpr ⟨⟨[114,101,116,117,114,110,32,97,32,61,61,32,98,32,92],[],rfl,Zi rfl,fun _ _=>.inr ⟨rfl,nb rfl,32,_,rfl,rfl⟩⟩,zo.mpr ⟨⟨[97,115,115,101,114,116,32,40,99,61,49,41,32,92],[32,32,105,110,32,100,32,92,10],rfl,Zi rfl,fun _ _=>.inr ⟨rfl,nb rfl,32,_,rfl,rfl⟩⟩,zo.mpr ⟨⟨[101,108,105,102,32,97,91,39,61,39,93,32,92],[9,111,114,32,98,32,61,32,99,32,92,10],rfl,Zi rfl,fun pos pv=>.inr ⟨by
  obtain⟨pv',e⟩:=Wv (pos:=pos+7) (lv:=1) (pv:=91) (r:=[61,39]) (.inr rfl) (fR [93,32,92,10] (pos+7))
  exact Eq.trans e rfl,nb rfl,32,_,rfl,rfl⟩⟩,zo.mpr ⟨⟨[102,40,97,61,98,41,91,48,93,32,61,32,39,120,39,32,92],[],rfl,Zi rfl,fun _ _=>.inl ⟨[32,39,120,39,32,92],rfl,rfl,rfl⟩⟩,zo.mpr ⟨⟨[114,97,105,115,101,32,92],[32,32,101,32,92,10],rfl,Zi rfl,fun _ _=>.inr ⟨rfl,nb rfl,32,_,rfl,rfl⟩⟩,fun _ h=>nomatch h⟩⟩⟩⟩⟩⟩
end
section
open L04 Rxm
noncomputable def Wd(t:Txt)(s:Nat):Prop:=∀i,s=i+1→t[i]? =some 10
theorem Wu{t:Txt}{s:Nat}(h:bol t s=true):Wd t s:=fun i e=>by
 subst e
 have h:((i+1)==0 || t.toArray.getD (i+1 - 1) 0==10)=true:=h
 have h1:t.toArray.getD i 0=10:=by
  cases Bool.or_eq_true_iff.mp h with
  |inl h=>exact absurd (eq_of_beq h) (jO i)
  |inr h=>exact eq_of_beq h
 rw[jY,ji]at h1
 cases e:t[i]? with
 |none=>rw[e]at h1;exact nomatch h1
 |some c=>rw[e]at h1;rw[show c=10 from h1]
theorem Oc{a:Nat→Bool}{v:Txt}:∀{u:Txt},Af a u < u.length→Af a (u++v)=Af a u
 |[],h=>absurd h (jt _)
 |c::u,h=>by
  have h:cond (a c) (Af a u+1) 0 < u.length+1:=h
  show cond (a c) (Af a (u++v)+1) 0=cond (a c) (Af a u+1) 0
  cases e:a c with
  |true=>rw[e]at h;rw[Oc (jB h)]
  |false=>rfl
theorem X0{v:Txt}{w s:Txt}(h:pre? w s=true):pre? w (s++v)=true:=by
 obtain⟨r,e⟩:=pre_app h
 rw[e,zk]
 exact Fd.mpr (List.take_left)
theorem Oh{t r:Txt}{lim x e:Nat}:∀{ws:List Txt},HM t lim r x ws=some e→∃w∈ws,pre? w r=true∧e=x+w.length
 |[],h=>nomatch h
 |w::ws,h=>by
  have h:cond (pre? w r && HB t.toArray lim (x+w.length)) (some (x+w.length)) (HM t lim r x ws)=some e:=h
  cases q:pre? w r && HB t.toArray lim (x+w.length)with
  |true=>rw[q]at h;exact⟨w,.head _,(zz.mp q).1,(ze h).symm⟩
  |false=>
   rw[q]at h
   obtain⟨w',h1,h2⟩:=Oh h
   exact⟨w',.tail _ h1,h2⟩
theorem Pf:∀w∈Hg,0 < w.length:=by decide+kernel
theorem U0{t:Txt}{q s e:Nat}(hs:s≤q)(hq:q≤t.length)(h:Pe t q s=some e):Wd t s∧QR (t.drop s)=true∧s < e∧e≤q:=by
 unfold Pe at h
 cases hb:bol t s with
 |false=>rw[hb]at h;exact nomatch h
 |true=>
  rw[hb]at h
  obtain⟨w,hw,hp,he⟩:=Oh h
  obtain⟨e1,e2⟩:=take_drop (t:=t) rfl hs hq
  generalize(t.take q).drop s=u at hp he e1 e2
  have hl:=Ks hp
  have hw0:=Pf w hw
  rw[z4]at hl
  have hk:Af HW u < u.length:=Nat.lt_of_sub_pos (zO hw0 hl)
  refine⟨Wu hb,?_,by rw[he];exact zO (Jg hw0) (Nat.add_le_add_right (zA _ _) _),?_⟩
  rotate_left
  ·have h5:=j6 (Jb hk) hl
   rw[he,zT,←jw hs,←e2]
   exact zS h5 s
  unfold QR
  refine List.any_eq_true.mpr ⟨w,hw,?_⟩
  rw[e1,Oc hk,jR (Jb hk)]
  exact X0 hp
theorem Oe{F:Nat→Option Nat}{s e:Nat}:∀{n p:Nat},Pd F n p=some (s,e)→p≤s∧s≤p+n∧F s=some e
 |0,p,h=>by
  have h:(match F p with |some e=>some (p,e) |none=>none)=some (s,e):=h
  cases q:F p with
  |none=>rw[q]at h;exact nomatch h
  |some e'=>rw[q]at h;cases h;exact⟨zw _,zw _,q⟩
 |n+1,p,h=>by
  have h:(match F p with |some e=>some (p,e) |none=>Pd F n (p+1))=some (s,e):=h
  cases q:F p with
  |none=>
   rw[q]at h
   obtain⟨h1,h2,h3⟩:=Oe h
   exact⟨by lia,by lia,h3⟩
  |some e'=>rw[q]at h;cases h;exact⟨zw _,zA _ _,q⟩
theorem YM{s p q:Nat}(h:s≤p+(q - 2 - p))(hp:p≤q - 2):s≤q:=by rw[jw hp]at h;exact zl h (jJ _ _)
theorem UZ{t:Txt}{p q s e:Nat}(hp:p≤q)(hq:q≤t.length)(h:DZ t p q=some (s,e)):p≤s∧s < e∧e≤q∧Wd t s∧QR (t.drop s)=true:=by
 unfold DZ at h
 cases hb:Nat.blt (q - p) 3 with
 |true=>rw[hb]at h;exact nomatch h
 |false=>
  rw[hb]at h
  have h3:¬q - p < 3:=fun h'=>by rw[BE h']at hb;exact nomatch hb
  obtain⟨h1,h2,h4⟩:=Oe h
  have hp2:p≤q - 2:=Nat.le_sub_of_add_le (j6 hp (Nat.le_of_succ_le (Jh h3)))
  rw[Nat.max_eq_right hp2]at h2
  obtain⟨k1,k2,k3,k4⟩:=U0 (YM h2 hp2) hq h4
  exact⟨h1,k3,k4,k1,k2⟩
theorem Qa:∀{r:Txt} {fs:List Bool} {b:Bool} {z:Txt},Mm z b r fs=true→∀j,j < r.length→(j=0→b=true)→(∀i,j=i+1→(r++z)[i]? =some 10)→QR ((r++z).drop j)=true→fs[j]? =some true
 |[],_,_,_,_,j,hj,_,_,_=>absurd hj (jt j)
 |c::r,[],_,_,h,_,_,_,_,_=>nomatch h
 |c::r,f::fs,b,z,h,j,hj,h0,h1,hk=>by
  have h:=zz.mp (show((cond b (cond (QR (c::(r++z))) f true) true) && Mm z (Nat.beq c 10) r fs)=true from h)
  cases j with
  |zero=>
   have h2:=h.1
   rw[h0 rfl,show QR (c::(r++z))=true from hk]at h2
   rw[show f=true from h2];rfl
  |succ j=>
   refine Qa h.2 j (jB hj) (fun e=>?_) (fun i e=>?_) hk
   ·subst e
    have:=h1 0 rfl
    exact De (ze this)
   ·subst e
    exact h1 (i+1) rfl
theorem Qr:∀ps:List (Txt×Bool),(fg ps).length=(tx ps).length
 |[]=>rfl
 |p::r=>by
  show(List.replicate p.1.length p.2++fg r).length=(p.1++tx r).length
  rw[zd,zd,jN,Qr r]
structure Ac(T:Txt)(F:List Bool)(st:List Nat)(n:Nat):Prop where
 A:Ef T
 len:T.length≤40*n
 lf:F.length=T.length
 ls:st.length≤n
 asc:AC 128 T=true
 pos:∀s∈st,∃A0 a,T=A0++a∧s=A0.length∧Ends A0∧Ef a
 kw:∀z s,s < T.length→Wd (T++z) s→QR ((T++z).drop s)=true→F[s]? =some true∨s∈st
theorem Ac.nil:Ac [] [] [] 0:=⟨.nil,zw _,rfl,zw _,rfl,(fun _ h=>nomatch h),fun _ s h=>absurd h (jt s)⟩
theorem QS{T p z:Txt}{F fs:List Bool}{st:List Nat}{s:Nat}(lf:F.length=T.length)(kw:∀z s,s < T.length→Wd (T++z) s→QR ((T++z).drop s)=true→F[s]? =some true∨s∈st)(hc:Mm z false p fs=true)(hs:s < (T++p).length)(hb:Wd ((T++p)++z) s)(hk:QR (((T++p)++z).drop s)=true):
  (F++fs)[s]? =some true∨s∈st++[T.length]:=by
 rw[zk]at hb hk
 by_cases h:s < T.length
 ·obtain h1 |h1:=kw _ s h hb hk
  ·exact .inl (by rw[zM (by lia)];exact h1)
  ·exact .inr (zr _ h1)
 ·obtain⟨j,rfl⟩:=Nat.exists_eq_add_of_le (Jh h)
  cases j with
  |zero=>exact .inr (zj _ (.head _))
  |succ j=>
   refine .inl ?_
   rw[zU (by lia),lf,jn]
   rw[zd]at hs
   rw[←ja,ju]at hk
   refine Qa hc (j+1) (by lia) (fun e=>nomatch e) (fun i e=>?_) hk
   have e:=hb (T.length+i) (by lia)
   rw[zU (zA _ _),jn]at e
   exact e
theorem Ac.snoc{T:Txt}{F:List Bool}{st:List Nat}{n:Nat}(h:Ac T F st n){ps:List (Txt×Bool)}(i:It ps):Ac (T++tx ps) (F++fg ps) (st++[T.length]) (n+1) where
 A:=h.A.snoc i.i
 len:=by have:=h.len;have:=i.len;rw[zd];lia
 lf:=by rw[zd,zd,h.lf,Qr]
 ls:=by have:=h.ls;rw[zd];exact zN this
 asc:=D0 h.asc i.asc
 pos:=fun s hs=>by
  obtain hs |hs:=zF.mp hs
  ·obtain⟨A0,a,e1,e2,e3,e4⟩:=h.pos s hs
   exact⟨A0,a++tx ps,by rw[e1,zk],e2,e3,e4.snoc i.i⟩
  ·exact⟨T,tx ps,rfl,zI.mp hs,h.A.ends,Ef.snoc .nil i.i⟩
 kw:=fun z s hs hb hk=>QS h.lf h.kw (i.chk z) hs hb hk
theorem QT:(FM.all fun w=>GU.all fun p=>Mm [] false (w++(p.1++p.2)) (List.replicate (w++(p.1++p.2)).length false))=true:=by kernel_rfl
structure Wh(t:Txt)(F:List Bool)(st:List Nat)(w y r:Txt):Prop where
 o:EL t
 len:t.length≤1000
 lf:F.length=t.length
 ls:st.length≤100
 pos:∀s,s=0∨s∈st→∃A0 a,t=A0++(a++(w++(y++r)))∧s=A0.length∧Ends A0∧Ef a
 kw:∀s,s < t.length→Wd t s→QR (t.drop s)=true→F[s]? =some true∨s∈st
theorem Ac.wh{T:Txt}{F:List Bool}{st:List Nat}{n:Nat}(h:Ac T F st n)(hn:n≤20){w:Txt}(hw:w∈FM){p:Txt×Txt}(hp:p∈GU)(L:SQ w p.1 p.2):
  Wh (T++(w++(p.1++p.2))) (F++List.replicate (w++(p.1++p.2)).length false) (st++[T.length]) w p.1 p.2 where
 o:=by
  obtain⟨u,eu,_⟩:=L.run
  refine⟨.inr ⟨T++u,by rw[eu,zk]⟩,D0 h.asc L.asc,?_⟩
  have:=h.len;have:=L.len;rw[zd];lia
 len:=by have:=h.len;have:=L.len;rw[zd];lia
 lf:=by simp only[zd,h.lf,jN]
 ls:=by have:=h.ls;rw[zd];show _+1≤100;lia
 pos:=fun s hs=>by
  obtain rfl |hs:=hs
  ·exact⟨[],T,rfl,rfl,.inl rfl,h.A⟩
  obtain hs |hs:=zF.mp hs
  ·obtain⟨A0,a,e1,e2,e3,e4⟩:=h.pos s hs
   exact⟨A0,a,by rw[e1,zk],e2,e3,e4⟩
  ·exact⟨T,[],rfl,zI.mp hs,h.A.ends,.nil⟩
 kw:=fun s hs hb hk=>by
  have hc:=zR.mp (zR.mp QT w hw) p hp
  refine QS (z:=[]) h.lf h.kw hc hs ?_ ?_
  ·rw[zL];exact hb
  ·rw[zL];exact hk
theorem Wh.Em{t w y r:Txt}{F:List Bool}{st:List Nat}(h:Wh t F st w y r){p q s e:Nat}(hp:p≤q)(hq:q≤t.length)(hs:DZ t p q=some (s,e)):p≤s∧s < e∧e≤q∧∃b,F[s]? =some b∧(b=true∨s∈st):=by
 obtain⟨h1,h2,h3,h4,h5⟩:=UZ hp hq hs
 have hl:s < t.length:=by lia
 have hf:s < F.length:=by rw[h.lf];exact hl
 refine⟨h1,h2,h3,F[s],jc hf,?_⟩
 obtain k |k:=h.kw s hl h4 h5
 ·rw[jc hf]at k
  exact .inl (ze k)
 ·exact .inr k
end
section
open L04 Rxm
theorem Lq{p:Nat→Bool}:∀(n k:Nat) (r:Int),C5 p k n r=r∨∃j,k≤j∧j < k+n∧p j=true∧C5 p k n r=.ofNat j
 |0,_,_=>.inl rfl
 |n+1,k,r=>by
  obtain h |⟨j,h1,h2,h3,h4⟩:=Lq (p:=p) n (k+1) (cond (p k) (.ofNat k) r)
  ·cases q:p k with
   |true=>exact .inr ⟨k,zw _,by lia,q,h.trans (by rw[q];rfl)⟩
   |false=>exact .inl (h.trans (by rw[q];rfl))
  ·exact .inr ⟨j,by lia,by lia,h3,h4⟩
theorem LN(x t:Txt)(b:Nat):Ck x t 0 b=Int.negSucc 0∨∃j,j+x.length≤b∧Ck x t 0 b=.ofNat j:=by
 obtain h |⟨j,_,_,h3,h4⟩:=Lq (p:=EN x t b) (b+1 - 0) 0 (-1)
 ·exact .inl h
 ·refine .inr ⟨j,?_,h4⟩
  have h3:cond (Nat.ble (j+x.length) b) (pre? x (t.drop j)) false=true:=h3
  exact zp (condT h3).1
theorem R5(t:Txt)(b:Nat):∃j,j≤b∧Ck [10] t 0 b+Int.ofNat 1=.ofNat j:=by
 obtain h |⟨j,h1,h2⟩:=LN [10] t b
 ·exact⟨0,zH _,by rw[h];rfl⟩
 ·exact⟨j+1,h1,by rw[h2];rfl⟩
theorem Sr{F:List Bool}{s:Nat}{b:Bool}(h:F[s]? =some b):Sq (F.map Val.bool) (.int (.ofNat s))=some (.bool b):=by
 show(F.map Val.bool)[s]? =_
 rw[Je,h];rfl
noncomputable def Ps(t:Txt)(st:List Nat)(v:Val):Prop:=v=.none∨∃s,s∈st∧s < t.length∧v=.int (.ofNat s)
section
variable {rx:Rx}{t:Txt}{F:List Bool}{st:List Nat}{h:List Cell}
noncomputable def Zq(rx:Rx)(t:Txt)(F:List Bool)(st:List Nat):Prop:=t.length≤50000∧∀p q s e,p≤q→q≤t.length→rx.Em t p q=some (s,e)→p≤s∧s < e∧e≤q∧∃b,F[s]? =some b∧(b=true∨s∈st)
theorem YL{o:Option (Nat×Nat)}{p q:Nat}(h:rx.Em t p q=o)(h1:p≤q)(h2:q≤t.length)(h3:t.length≤50000):Dr rx .syn3 (.str t) (.int (.ofNat p)) (.int (.ofNat q))=CM o:=by
 show cond (Nat.ble p q && (Nat.ble q t.length && Nat.ble t.length 50000)) (CM (rx.Em t p q)) none=_
 rw[zt h1,zt h2,zt h3,h];rfl
theorem YK{o:Option (Nat×Nat)}{p:Nat}(h:rx.Em t p t.length=o)(h1:p≤t.length)(h3:t.length≤50000):AG rx .syn2 (.str t) (.int (.ofNat p))=CM o:=by
 show cond (Nat.ble p t.length && Nat.ble t.length 50000) (CM (rx.Em t p t.length)) none=_
 rw[zt h1,zt h3,h];rfl
theorem So{o:Option (Nat×Nat)}(h:rx.Em t 0 t.length=o)(h3:t.length≤50000):Bw rx .syn1 (.str t)=CM o:=by
 show cond (Nat.ble t.length 50000) (CM (rx.Em t 0 t.length)) none=_
 rw[zt h3,h];rfl
noncomputable abbrev sG(t:Txt)(F:List Bool)(l1 l2 l3:Option LV)(pos:Val)(l6 l7:Option LV)(sf:List (Option LV))(h:List Cell):St:=
 ⟨[some (.fn (F.map Val.bool)),l1,l2,l3,some (.v (.str t)),some (.v pos),l6,l7],[],sf,h⟩
theorem tries{cl:EI}{ini nf:Nat}{X:A7→St→Prop}{Q:Out→St→Prop}{sf:List (Option LV)}{l7:Option LV}(S:Zq rx t F st):∀(l:List Val) (lim:Nat) (l2 l3 l6:Option LV),lim≤t.length→
  (∀l1 l2 l3 l6 v,Ps t st v→Q .next (sG t F l1 l2 l3 v l6 l7 sf h))→
  forL (BU [.loc 2]) (Ay ⟨rx,cl,ini,nf⟩ X AV) Q l (sG t F (I lim) l2 l3 .none l6 l7 sf h)
 |[],lim,l2,l3,l6,_,hQ=>hQ _ _ _ _ _ (.inl rfl)
 |x::l,lim,l2,l3,l6,hl,hQ=>by
  have hcl:clip t.length (Int.ofNat lim)=lim:=jd hl
  obtain hi |⟨k,hk,hi⟩:=LN [58,10] t (clip t.length (Int.ofNat lim))
  ·conv=>whnf
   refine Ap (show ltI (Ck [58,10] t 0 (clip t.length (Int.ofNat lim))) 0=true by rw[hi];rfl) ?_
   conv=>whnf
   exact hQ _ _ _ _ _ (.inl rfl)
  rw[hcl]at hk
  have hk:k+2≤lim:=hk
  obtain⟨j,hj,ej⟩:=R5 t (clip t.length (Ck [58,10] t 0 (clip t.length (Int.ofNat lim))))
  have hck:clip t.length (Ck [58,10] t 0 (clip t.length (Int.ofNat lim)))≤k:=by rw[hi];exact Nat.min_le_left _ _
  have hjl:j≤lim:=by lia
  have ih:=fun l2 l6=>tries (cl:=cl) (ini:=ini) (nf:=nf) (X:=X) S l j l2 (I j) l6 (zl hjl hl) hQ
  unfold I at ih
  rw[←ej]at ih
  have hs:=fun o (e:rx.Em t j lim=o)=>YL (rx:=rx) e hjl hl S.1
  rw[←ej]at hs
  conv=>whnf
  refine AM (show ltI (Ck [58,10] t 0 (clip t.length (Int.ofNat lim))) 0=false by rw[hi];rfl) ?_
  conv=>whnf
  cases q:rx.Em t j lim with
  |none=>
   refine A9 (hs _ q) ?_
   conv=>whnf
   exact ih _ _
  |some p=>
   obtain⟨s,e⟩:=p
   obtain⟨_,g2,g3,b,g4,g5⟩:=S.2 j lim s e hjl hl q
   refine A9 (hs _ q) ?_
   conv=>whnf
   refine A9 (Sr g4) ?_
   cases b with
   |true=>
    conv=>whnf
    exact ih _ _
   |false=>
    conv=>whnf
    refine hQ _ _ _ _ _ (.inr ⟨s,?_,by lia,rfl⟩)
    exact g5.elim (fun h=>nomatch h) id
theorem W9{cl:EI}{ini nf:Nat}{X:A7→St→Prop}{Q:Out→St→Prop}{sf:List (Option LV)}{l1 l2:Option LV}(S:Zq rx t F st)
  (hQ:∀l3 l6 l7 v,Ps t st v→Q .next (sG t F l1 l2 l3 v l6 l7 sf h)):∀(n i:Nat) (v:Val) (l6 l7:Option LV),i≤t.length→t.length - i < n→Ps t st v→
  C6 (Ec ⟨rx,cl,ini,nf⟩ X AY) (Ay ⟨rx,cl,ini,nf⟩ X AW) (Ay ⟨rx,cl,ini,nf⟩ X AX) Q n (sG t F l1 l2 (I i) v l6 l7 sf h)
 |0,_,_,_,_,_,h,_=>absurd h (jt _)
 |n+1,i,v,l6,l7,hi,hn,hv=>by
  have hs:=fun o (e:rx.Em t i t.length=o)=>YK (rx:=rx) e hi S.1
  conv=>whnf
  cases q:rx.Em t i t.length with
  |none=>
   refine A9 (hs _ q) ?_
   conv=>whnf
   exact hQ _ _ _ _ hv
  |some p=>
   obtain⟨s,e⟩:=p
   obtain⟨g1,g2,g3,b,g4,g5⟩:=S.2 i t.length s e hi (zw _) q
   refine A9 (hs _ q) ?_
   conv=>whnf
   refine A9 (Sr g4) ?_
   cases b with
   |true=>
    conv=>whnf
    exact W9 S hQ n e v _ _ g3 (by lia) hv
   |false=>
    conv=>whnf
    exact W9 S hQ n e _ _ _ g3 (by lia) (.inr ⟨s,g5.elim (fun h=>nomatch h) id,by lia,rfl⟩)
theorem Qv{C:Cfg}{X:A7→St→Prop}{Q:Out→St→Prop}{k n:Nat}{b r:Ss}{σ:St}(hn:Nat.blt n Az=true)(h:forL (BU [.loc k]) (Ay C X b) (fun o σ=>match o with | .next=>Ay C X r Q σ |o=>Q o σ) (BG 0 n) σ):
  Ay C X (.cons (.for_ [.loc k] (.range1 (.lit (.int (.ofNat n)))) b) r) Q σ:=by
 conv=>whnf
 exact Ap hn h
noncomputable def lr:Ss:=.cons (.if_ (.p1 .isnone (.loc 5)) (.cons (.asg 6 (.p1 .syn1 (.loc 4))) (.cons (.if_ (.bl true (.cons (.loc 6) (.cons (.not_ (.icall 0 (.p1 .mstart (.loc 6)))) .nil))) (.cons (.asg 5 (.p1 .mstart (.loc 6))) .nil) (.nil)) (.cons (.ret (.loc 5)) .nil))) (.nil)) (.cons (.asg 3 (.p2 .add (.loc 5) (.lit (.int (.ofNat 1))))) (.cons (.while_ AY AW AX) (.cons (.ret (.loc 5)) .nil)))
theorem Qt{d iw tw l:Nat}{gl co ss se lc lo br:Option Val}{K:Val→List (Option Val)→List Cell→Prop}{X:A7→List (Option Val)→List Cell→Prop}(S:Zq rx t F st)
  (hK:∀v,Ps t st v→K v (fld iw tw t l gl co ss se lc lo br) h):Ay ⟨rx,AD (PQ rx) d,0,11⟩ (DQ X) (.cons (.for_ [.loc 2] (.range1 (.lit (.int (.ofNat 5)))) AV) lr) (DC K) (sG t F (I t.length) none none .none none none (BD (fld iw tw t l gl co ss se lc lo br)) h):=by
 refine Qv rfl ?_
 refine tries (cl:=AD (PQ rx) d) (ini:=0) (nf:=11) (X:=DQ X) (l7:=none) S _ t.length none none none (zw _) fun l1 l2 l3 l6 v hv=>?_
 obtain rfl |⟨s,h1,h2,rfl⟩:=hv
 ·conv=>whnf
  cases q:rx.Em t 0 t.length with
  |none=>
   refine A9 (So q S.1) ?_
   conv=>whnf
   refine A9 (Cg _ (fld iw tw t l gl co ss se lc lo br)) ?_
   conv=>whnf
   exact hK _ (.inl rfl)
  |some p=>
   obtain⟨s,e⟩:=p
   obtain⟨g1,g2,g3,b,g4,g5⟩:=S.2 0 t.length s e (zH _) (zw _) q
   refine A9 (So q S.1) ?_
   conv=>whnf
   refine A9 (Sr g4) ?_
   cases b with
   |true=>
    conv=>whnf
    refine A9 (Cg _ (fld iw tw t l gl co ss se lc lo br)) ?_
    conv=>whnf
    exact hK _ (.inl rfl)
   |false=>
    conv=>whnf
    refine A9 (Cg _ (fld iw tw t l gl co ss se lc lo br)) ?_
    conv=>whnf
    exact hK _ (.inr ⟨s,g5.elim (fun h=>nomatch h) id,by lia,rfl⟩)
 ·conv=>whnf
  refine⟨_,W9 (cl:=AD (PQ rx) d) (ini:=0) (nf:=11) (X:=DQ X) S (fun l3 l6 l7 v hv=>?_) (t.length - (s+1)+1) (s+1) _ _ _ h2 (zQ _) (.inr ⟨s,h1,h2,rfl⟩)⟩
  obtain rfl |⟨s',h1',h2',rfl⟩:=hv
  ·conv=>whnf
   refine A9 (Cg _ (fld iw tw t l gl co ss se lc lo br)) ?_
   conv=>whnf
   exact hK _ (.inl rfl)
  ·conv=>whnf
   refine A9 (Cg _ (fld iw tw t l gl co ss se lc lo br)) ?_
   conv=>whnf
   exact hK _ (.inr ⟨s',h1',h2',rfl⟩)
theorem Qu{d iw tw l:Nat}{gl co ss se lc lo br:Option Val}{K:Val→List (Option Val)→List Cell→Prop}{X:A7→List (Option Val)→List Cell→Prop}(S:Zq rx t F st)
  (hK:∀v,Ps t st v→K v (fld iw tw t l gl co ss se lc lo br) h):AD (PQ rx) (d+1) (2000+3) (fld iw tw t l gl co ss se lc lo br) [.seq false (F.map Val.bool)] h K X:=by
 have k:=Qt (d:=d) (X:=X) S hK
 conv=>whnf
 conv at k=>whnf
 exact k
end
end
section
open L04 Rxm
theorem W4(a n:Nat):Int.fmod (.ofNat a) (.ofNat n)=.ofNat (a % n):=by
 induction a using zE with
 |zero=>rw[Nat.zero_mod];rfl
 |succ a=>rfl
theorem IW(a:Int)(n:Nat)(h:0 < n):∃r,r < n∧Int.fmod a (.ofNat n)=.ofNat r:=by
 have h1:0≤Int.fmod a (.ofNat n):=Int.fmod_nonneg_of_pos a (Jv.mpr h)
 have h2:Int.fmod a (.ofNat n) < .ofNat n:=Int.fmod_lt_of_pos a (Jv.mpr h)
 refine zg (Int.eq_ofNat_of_zero_le h1) fun r hr=>?_
 exact⟨r,Jv.mp (by rw[hr]at h2;exact h2),hr⟩
theorem HO{rx:Rx}{a b:Txt}(h:a.length+b.length≤Az):AG rx .add (.str a) (.str b)=some (.str (a++b)):=by
 show cond (Nat.ble (a.length+b.length) Az) _ _=_
 rw[zt h];rfl
theorem eE{a b:Nat}(h:b≤a):Int.ofNat a - Int.ofNat b=Int.ofNat (a - b):=by
 simp only[Int.ofNat_eq_natCast];lia
theorem Oi:∀t:Txt,Bt t t=true
 |[]=>rfl
 |c::t=>by
  show cond (Nat.beq c c) (Bt t t) false=true
  rw[De rfl];exact Oi t
section
variable {rx:Rx}{d:Nat}{K:Val→List (Option Val)→List Cell→Prop}{X:A7→List (Option Val)→List Cell→Prop}
noncomputable def Pl(y:Txt):Prop:=∀c∈y,c≠10∧c≠13
theorem EF{C:Cfg}{X:A7→St→Prop}{Q:Out→St→Prop}{t0:Val}{tw:Nat}{h:List Cell}:∀(x:Txt) (col:Nat) (sg:Option LV),Pl x→
  (∀sg,Q .next ⟨[some (.v t0),I (tw+1),I (col+(expand (tw+1) col x).length),sg],[],[],h⟩)→
  forL (BU [.loc 3]) (Ay C X DV) Q (chars x) ⟨[some (.v t0),I (tw+1),I col,sg],[],[],h⟩
 |[],col,sg,_,hQ=>hQ sg
 |c::x,col,sg,hx,hQ=>by
  have hx':Pl x:=fun c h'=>hx c (.tail _ h')
  have h1:=hx c (.head _)
  have e:expand (tw+1) col (c::x)=cond (Nat.beq c 9) (List.replicate (tw+1 - col % (tw+1)) 32++expand (tw+1) (col+(tw+1 - col % (tw+1))) x) (c::expand (tw+1) (cond (Nat.beq c 10 || Nat.beq c 13) 0 (col+1)) x):=rfl
  rw[e]at hQ
  by_cases hc:c=9
  ·rw[De hc,jz,zd,jN]at hQ
   have k:=EF (C:=C) (X:=X) (Q:=Q) (t0:=t0) (tw:=tw) (h:=h) x (col+(tw+1 - col % (tw+1))) (some (.v (.str [c]))) hx' (fun sg=>by rw[zT];exact hQ sg)
   have e2:Int.ofNat (col+(tw+1 - col % (tw+1)))=Int.ofNat col+(Int.ofNat (tw+1) - Int.fmod (.ofNat col) (.ofNat (tw+1))):=by
    rw[W4,eE (Jb (Nat.mod_lt _ (jl _)))];rfl
   unfold I at k
   rw[e2]at k
   conv=>whnf
   refine Ap (Dv hc) ?_
   conv=>whnf
   exact k
  ·rw[Be hc,Be h1.1,Be h1.2]at hQ
   have k:=EF (C:=C) (X:=X) (Q:=Q) (t0:=t0) (tw:=tw) (h:=h) x (col+1) (some (.v (.str [c]))) hx' (fun sg=>by
    rw[zT,jy 1];exact hQ sg)
   conv=>whnf
   refine AM (CQ hc) ?_
   conv=>whnf
   exact k
theorem Pn{lead:Txt}{tw:Nat}{h:List Cell}(hl:Pl lead)(ha:AC 128 lead=true)(htw:1≤tw)(hK:K (.int (.ofNat (expand tw 0 lead).length)) [] h):AD (PQ rx) (d+1) 10 [] [.str lead,.int (.ofNat tw)] h K X:=by
 induction tw using zE with
 |zero=>lia
 |succ tw=>
  conv=>whnf
  refine Ap ha ?_
  conv=>whnf
  exact EF (C:=⟨rx,AD (PQ rx) d,0,11⟩) (t0:=.str lead) lead 0 none hl (fun sg=>by
   rw[jD]
   conv=>whnf
   exact hK)
end
noncomputable abbrev i5(iw tw:Nat)(o1 o2 gl co ss se lc lo br:Option Val):List (Option Val):=[some (.int (.ofNat iw)),some (.int (.ofNat tw)),o1,o2,gl,co,ss,se,lc,lo,br]
noncomputable def PF(iw tw:Nat)(fs:List (Option Val)):Prop:=∃o1 o2 gl co ss se lc lo br,fs=i5 iw tw o1 o2 gl co ss se lc lo br
theorem MJ{iw tw:Nat}{T:Txt}{l:Nat}{gl co ss se lc lo br:Option Val}:PF iw tw (fld iw tw T l gl co ss se lc lo br):=⟨_,_,_,_,_,_,_,_,_,rfl⟩
noncomputable def PS(iw tw:Nat)(T:Txt)(fs:List (Option Val)):Prop:=∃gl co ss se lc lo br,fs=fld iw tw T 0 gl co ss se lc lo br
section
variable {rx:Rx}{d iw tw:Nat}{T t:Txt}{h:List Cell}{K:Val→List (Option Val)→List Cell→Prop}{X:A7→List (Option Val)→List Cell→Prop}
theorem gn{o1 o2 gl co ss se lc lo br:Option Val}:fz [] (Bg (Bg (BD (i5 iw tw o1 o2 gl co ss se lc lo br)) 2 (.v (.str T))) 3 (.v (.int (.ofNat 0))))=some (fld iw tw T 0 gl co ss se lc lo br):=by
 show fz [] (some (.v (.int (.ofNat iw)))::some (.v (.int (.ofNat tw)))::Bg (Bg (BD [o1,o2,gl,co,ss,se,lc,lo,br]) 0 (.v (.str T))) 1 (.v (.int (.ofNat 0))))=_
 rw[B4 o1,B4 o2]
 exact Cy rfl (Cy rfl (Cy rfl (Cy rfl (Cg _ _))))
theorem Z2{gl co ss se lc lo br:Option Val}:fz [] (Bg (BD (fld iw tw T 0 gl co ss se lc lo br)) 2 (.v (.str t)))=some (fld iw tw t 0 gl co ss se lc lo br):=by
 show fz [] (some (.v (.int (.ofNat iw)))::some (.v (.int (.ofNat tw)))::some (.v (.str t))::BD [some (.int (.ofNat 0)),gl,co,ss,se,lc,lo,br])=_
 exact Cy rfl (Cy rfl (Cy rfl (Cg _ _)))
theorem Wk(u:Txt)(c:Nat):IC (u++[c]) (Int.negSucc 0)=some c:=by
 show cond (Nat.blt 0 (u++[c]).length) ((u++[c])[(u++[c]).length - (0+1)]?) none=_
 rw[zd]
 show(u++[c])[u.length]? =_
 rw[zU (zw _),jW];rfl
theorem Tw{u:Txt}{c:Nat}(h:T=u++[c]):AG rx .idx (.str T) (.int (Int.negSucc 0))=some (.str [c]):=by
 have e:IC T (Int.negSucc 0)=some c:=by rw[h];exact Wk u c
 show(match IC T (Int.negSucc 0)with |some c=>some (Val.str [c]) |none=>none)=_
 rw[e]
theorem FW{fs:List (Option Val)}(hf:PF iw tw fs)(hT:∃u,T=u++[10])
  (hK:∀f2,PS iw tw T f2→K .none f2 h):AD (PQ rx) (d+1) 1 fs [.str T] h K X:=by
 obtain⟨o1,o2,gl,co,ss,se,lc,lo,br,rfl⟩:=hf
 obtain⟨u,hT⟩:=hT
 have hl:T.length≠0:=by rw[hT,zd];exact jO _
 conv=>whnf
 refine AM (Be hl) ?_
 conv=>whnf
 refine A9 (Tw hT) ?_
 conv=>whnf
 refine A9 (gn) ?_
 conv=>whnf
 exact hK _ ⟨_,_,_,_,_,_,_,rfl⟩
theorem Pa{fs:List (Option Val)}(hf:PS iw tw T fs){A:Txt}(hT:T=A++t)(hA:Ends A)
  (hK:∀f2,PS iw tw t f2→K .none f2 h):AD (PQ rx) (d+1) 5 fs [.int (.ofNat A.length)] h K X:=by
 obtain⟨gl,co,ss,se,lc,lo,br,rfl⟩:=hf
 obtain rfl |⟨u,hu⟩:=hA
 ·have hT:T=t:=hT
  subst hT
  conv=>whnf
  refine A9 (Cg _ (fld iw tw T 0 gl co ss se lc lo br)) ?_
  conv=>whnf
  exact hK _ ⟨_,_,_,_,_,_,_,rfl⟩
 ·have hl:A.length=u.length+1:=by rw[hu,zd];rfl
  have hg:T[u.length]? =some 10:=by
   rw[hT,hu,zk,zU (zw _),jW];rfl
  have hs:slice T (.ofNat (u.length+1)) (.ofNat T.length)=t:=by
   rw[←hl]
   exact Du (v:=[]) (by rw[zL];exact hT) (by rw[hT,zd])
  have hi:AG rx .idx (.str T) (.int (Int.ofNat (u.length+1) - Int.ofNat 1))=some (.str [10]):=by rw[FJ];exact Co hg
  rw[hl]
  conv=>whnf
  refine A9 hi ?_
  rw[←hs]at hK
  conv=>whnf
  refine A9 (Z2) ?_
  conv=>whnf
  exact hK _ ⟨_,_,_,_,_,_,_,rfl⟩
end
end
section
open L04 Rxm
theorem dN{iw tw:Nat}{t:Txt}{p q:Nat}{s:A2}{fs:List (Option Val)}(h:Hq iw tw t p q s fs):PF iw tw fs:=by
 induction h using Hq.casesOn with
 |one _=>exact MJ
 |two=>exact MJ
theorem Nk{n:Nat}{z:Txt}:∀{x:Txt},AC n (x++z)=true→AC n z=true
 |[],h=>h
 |c::x,h=>Nk (x:=x) (condT (show cond (Nat.blt c n) (AC n (x++z)) false=true from h)).2
theorem Nj{n:Nat}{z:Txt}:∀{x:Txt},AC n (x++z)=true→AC n x=true
 |[],_=>rfl
 |c::x,h=>by
  have h:=condT (show cond (Nat.blt c n) (AC n (x++z)) false=true from h)
  show cond (Nat.blt c n) (AC n x) false=true
  rw[h.1];exact Nj h.2
noncomputable abbrev C8(rx:Rx):Cfg:=⟨rx,AD (PQ rx) 8,0,11⟩
section
variable {rx:Rx}{X:A7→St→Prop}{Q:Out→St→Prop}{t w y r:Txt}{F:List Bool}{st:List Nat}{tw:Nat}{l0 l1 l2 l4 l6 l9 l10 l11 l12 l13 l14 l15 l16:Option LV}
noncomputable abbrev sP(t w y:Txt)(tw:Nat)(l0 l1 l2 l4 l6 l9 l10 l11 l12 l13 l14 l15 l16:Option LV)(fs:List (Option Val)):St:=
 ⟨[l0,l1,l2,some (.v (.str w)),l4,some (.v (.str t)),l6,some (.v (.int (.ofNat ((expand tw 0 (w++y)).length+1)))),some (.v (.obj 0)),l9,l10,l11,l12,l13,l14,l15,l16],[],[],[.flds fs]⟩
theorem eO(R:Dc rx)(W:Wh t F st w y r)(L:SQ w y r)(S:Zh y r)(htw:1≤tw)(htw2:tw≤1000){s:Nat}(hs:s=0∨s∈st){fs:List (Option Val)}(hf:PF 4 tw fs)
  (hQ:∀l14 fs,PF 4 tw fs→Q .next (sP t w y tw l0 l1 l2 l4 l6 l9 (I s) l11 l12 l13 l14 l15 l16 fs)):
  Ay (C8 rx) X GV Q (sP t w y tw l0 l1 l2 l4 l6 l9 (I s) l11 l12 l13 l14 l15 l16 fs):=by
 obtain⟨A0,a,et,es,hE,hA⟩:=W.pos s hs
 subst es
 have hlt:=W.len
 have hl:=zB List.length et
 rw[zd]at hl
 obtain⟨u,eu,_⟩:=L.run
 have hT:∃u,t=u++[10]:=⟨A0++(a++u),by rw[et,eu];simp only[zk]⟩
 have ht2:a++(w++(y++r))=a++(w++(y++r)):=rfl
 have o:EL (a++(w++(y++r))):=by
  refine⟨.inr ⟨a++u,by rw[eu];simp only[zk]⟩,?_,by lia⟩
  have h1:=W.o.asc
  rw[et]at h1
  exact Nk h1
 obtain⟨s2,La,hk⟩:=TJ R hA L ht2 (by lia) (TC L ht2)
 have hw:AC 128 w=true:=Nj L.asc
 conv=>whnf
 refine FW hf hT fun f1 g1=>?_
 conv=>whnf
 refine Pa (A:=A0) g1 et hE fun f2 g2=>?_
 obtain⟨gl,co,ss,se,lc,lo,br,rfl⟩:=g2
 conv=>whnf
 refine S4 R o La hk L S ht2 htw htw2 (.one (.inl rfl)) ?_
 conv=>whnf
 refine AM (show(!Nat.beq _ _)=false by rw[Jd];rfl) ?_
 conv=>whnf
 refine S5 R o La L ht2 .two ?_
 conv=>whnf
 refine AM (show(!Bt _ _)=false by rw[Oi];rfl) ?_
 conv=>whnf
 exact hQ _ _ (dN .two)
theorem Q5(R:Dc rx)(W:Wh t F st w y r)(L:SQ w y r)(S:Zh y r)(htw:1≤tw)(htw2:tw≤1000)(hQ:∀l10 l14 fs,Q .next (sP t w y tw l0 l1 l2 l4 l6 l9 l10 l11 l12 l13 l14 l15 l16 fs)):∀(l:List Nat) (l10 l14:Option LV) (fs:List (Option Val)),(∀s∈l,s=0∨s∈st)→PF 4 tw fs→
  forL (BU [.loc 10]) (Ay (C8 rx) X GV) Q (l.map fun s=>Val.int (.ofNat s)) (sP t w y tw l0 l1 l2 l4 l6 l9 l10 l11 l12 l13 l14 l15 l16 fs)
 |[],_,_,_,_,_=>hQ _ _ _
 |s::l,l10,l14,fs,hl,hf=>eO R W L S htw htw2 (hl s (.head _)) hf fun _ _ hf=>Q5 R W L S htw htw2 hQ l _ _ _ (fun s h=>hl s (.tail _ h)) hf
theorem QH(s:Nat):∀(l:List Nat),s∈l→C3 (.ofNat s) (l.map fun s=>Val.int (.ofNat s))=some true∧True:=by
 have k:∀l:List Nat,∃b,C3 (.ofNat s) (l.map fun s=>Val.int (.ofNat s))=some b∧(s∈l→b=true):=fun l=>by
  induction l with
  |nil=>exact⟨false,rfl,fun h=>nomatch h⟩
  |cons c l ih=>
   obtain⟨b,e,hb⟩:=ih
   refine⟨cond (IT (.ofNat c) (.ofNat s)) true b,?_,fun h=>?_⟩
   ·show(match C3 (.ofNat s) (l.map fun s=>Val.int (.ofNat s))with |some b=>some (cond (IT (.ofNat c) (.ofNat s)) true b) |none=>none)=_
    rw[e]
   ·cases h with
    |head=>rw[show IT (Int.ofNat s) (Int.ofNat s)=true from Jd s];rfl
    |tail _ h=>rw[hb h];cases IT (.ofNat c) (.ofNat s) <;>rfl
 exact fun l h=>by
  obtain⟨b,e,hb⟩:=k l
  exact⟨by rw[e,hb h],trivial⟩
theorem RL(R:Dc rx)(W:Wh t F st w y r)(L:SQ w y r)(S:Zh y r)(htw:1≤tw)(htw2:tw≤1000){v:Val}(hv:Ps t st v){fs:List (Option Val)}(hf:PF 4 tw fs):
  Ay (C8 rx) X DA (DC fun r _ _=>r=.bool true) (sP t w y tw l0 l1 l2 l4 l6 (some (.v v)) l10 (some (.v (.seq false (st.map fun s=>.int (.ofNat s))))) l12 l13 l14 l15 l16 fs):=by
 have hls:=W.ls
 have hle:(st.map fun s=>Val.int (.ofNat s)).length=st.length:=z3 ..
 have hadd:∀a b:Val,AG rx .add (.seq false [a,b]) (.seq false (st.map fun s=>.int (.ofNat s)))=some (.seq false (a::b::st.map fun s=>.int (.ofNat s))):=fun a b=>by
  have hb:Nat.ble ([a,b].length+(st.map fun s=>Val.int (.ofNat s)).length) Az=true:=zt (show 2+(st.map fun s=>Val.int (.ofNat s)).length≤16777216 by rw[hle];lia)
  show cond (Nat.ble ([a,b].length+(st.map fun s=>Val.int (.ofNat s)).length) Az) _ _=_
  rw[hb];rfl
 obtain rfl |⟨s,h1,h2,rfl⟩:=hv
 ·conv=>whnf
  refine A9 (hadd _ _) ?_
  conv=>whnf
  refine Q5 (Q:=fun o σ=>match o with | .next=>Ay (C8 rx) X (.cons (.ret (.lit (.bool true))) .nil) (DC fun r _ _=>r=.bool true) σ |o=>DC (fun r _ _=>r=.bool true) o σ) R W L S htw htw2 (fun l10 l14 fs=>?_) (0::0::st) _ _ _ (fun s h=>?_) hf
  ·conv=>whnf
  ·cases h with
   |head=>exact .inl rfl
   |tail _ h=>cases h with
    |head=>exact .inl rfl
    |tail _ h=>exact .inr h
 ·have hin:AG rx .notin (.int (.ofNat s)) (.seq false (st.map fun s=>.int (.ofNat s)))=some (.bool false):=by
   show(match C3 (.ofNat s) (st.map fun s=>Val.int (.ofNat s))with |some r=>some (Val.bool !r) |none=>none)=_
   rw[(QH s st h1).1];rfl
  conv=>whnf
  refine A9 hin ?_
  conv=>whnf
  refine A9 (hadd _ _) ?_
  conv=>whnf
  refine Q5 (Q:=fun o σ=>match o with | .next=>Ay (C8 rx) X (.cons (.ret (.lit (.bool true))) .nil) (DC fun r _ _=>r=.bool true) σ |o=>DC (fun r _ _=>r=.bool true) o σ) R W L S htw htw2 (fun l10 l14 fs=>?_) (s::0::st) _ _ _ (fun s' h=>?_) hf
  ·conv=>whnf
  ·cases h with
   |head=>exact .inr h1
   |tail _ h=>cases h with
    |head=>exact .inl rfl
    |tail _ h=>exact .inr h
end
end
section
open L04 Rxm
noncomputable abbrev fV(F:List Bool):List Val:=F.map Val.bool
noncomputable abbrev nV(st:List Nat):List Val:=st.map fun s=>Val.int (.ofNat s)
noncomputable abbrev sL(v0:Val)(o1:Option Val)(T:Txt)(F:List Bool)(ow:List Val)(CT CU:Option Val):St:=
 ⟨[some (.v v0),o1.map LV.v,none,none,none,some (.v (.str T)),some (.loc 0),none,none,none,none,some (.loc 1),none,none,none,CT.map LV.v,CU.map LV.v],[fV F,ow],[],[]⟩
theorem RX(b:Bool):∀n,Kw [.bool b] n=fV (List.replicate n b)
 |0=>rfl
 |n+1=>zB (Val.bool b::·) (RX b n)
theorem Vz{rx:Rx}{b:Bool}{n:Nat}(h:n≤10000):AG rx .mul (.seq false [.bool b]) (.int (.ofNat n))=some (.seq false (fV (List.replicate n b))):=by
 have h1:Nat.ble ([Val.bool b].length*n) Az=true:=zt (show 1*n≤16777216 by lia)
 have h2:Nat.ble n Az=true:=zt (show n≤16777216 by lia)
 show cond (Nat.ble ([Val.bool b].length*n) Az && Nat.ble n Az) (some (Val.seq false (Kw [Val.bool b] n))) none=_
 rw[h1,h2,RX];rfl
section
variable {rx:Rx}{X:A7→St→Prop}{Q:Out→St→Prop}{v0:Val}{ow:List Val}
theorem parts{o1:Option Val}:∀(ps:List (Txt×Bool)) (T:Txt) (F:List Bool) (CT CU:Option Val),F.length=T.length→T.length+(tx ps).length≤5000→
  (∀CT CU,Q .next (sL v0 o1 (T++tx ps) (F++fg ps) ow CT CU))→
  forL (BU [.loc 15,.loc 16]) (Ay (C8 rx) X Lv) Q (ps.map fun p=>.seq true [.str p.1,.bool p.2]) (sL v0 o1 T F ow CT CU)
 |[],T,F,CT,CU,_,_,hQ=>by
  have k:=hQ CT CU
  rw[show T++tx []=T from zL _,show F++fg []=F from zL _]at k
  exact k
 |p::ps,T,F,CT,CU,hF,hl,hQ=>by
  have hl:T.length+(p.1++tx ps).length≤5000:=hl
  rw[zd]at hl
  have k:=parts (o1:=o1) ps (T++p.1) (F++List.replicate p.1.length p.2) (some (.str p.1)) (some (.bool p.2)) (by rw[zd,zd,hF,jN]) (by rw[zd];lia)
   (fun CT CU=>by rw[zk,zk];exact hQ CT CU)
  have e:fV (F++List.replicate p.1.length p.2)=fV F++fV (List.replicate p.1.length p.2):=jm
  unfold sL at k
  rw[e]at k
  conv=>whnf
  refine A9 (HO (show T.length+p.1.length≤16777216 by lia)) ?_
  conv=>whnf
  refine A9 (Vz (show p.1.length≤10000 by lia)) ?_
  conv=>whnf
  refine Ap (zt (show(fV F).length+(fV (List.replicate p.1.length p.2)).length≤16777216 by rw[z3,z3,jN];lia)) ?_
  conv=>whnf
  exact k
theorem item_at(x:Int):∃ps,ps∈FR∧AG rx .idx E3 (.int (Int.fmod x (.ofNat 12)))=some (pv ps):=by
 obtain⟨r,hr,e⟩:=IW x 12 (by decide)
 rw[e,QO]
 have hr':r < FR.length:=hr
 refine⟨FR[r],List.getElem_mem hr',?_⟩
 show(FR.map pv)[r]? =_
 rw[Je,jc hr'];rfl
theorem Rk{st:List Nat}(h:st.length≤100):Nat.blt (nV st).length Az=true:=BE (show(nV st).length < 16777216 by rw[z3];lia)
theorem items:∀(xs:List Int) (T:Txt) (F:List Bool) (st:List Nat) (n:Nat) (o1 CT CU:Option Val),Ac T F st n→n+xs.length≤20→
  (∀T F st n o1 CT CU,Ac T F st n→n≤20→Q .next (sL v0 o1 T F (nV st) CT CU))→
  forL (BU [.loc 1]) (Ay (C8 rx) X Lw) Q (xs.map Val.int) (sL v0 o1 T F (nV st) CT CU)
 |[],T,F,st,n,o1,CT,CU,h,hn,hQ=>hQ T F st n o1 CT CU h hn
 |x::xs,T,F,st,n,o1,CT,CU,h,hn,hQ=>by
  rw[zy]at hn
  obtain⟨ps,hp,e⟩:=item_at (rx:=rx) x
  have it:=Xf ps hp
  have hlt:=h.len
  have hit:=it.len
  have hls:=h.ls
  have e2:nV (st++[T.length])=nV st++[.int (.ofNat T.length)]:=jm
  have k:=fun CT CU=>items xs _ _ _ (n+1) (some (.int x)) CT CU (h.snoc it) (by lia) hQ
  unfold sL at k
  rw[e2]at k
  conv=>whnf
  refine Ap (Rk (by lia)) ?_
  conv=>whnf
  refine A9 e ?_
  conv=>whnf
  refine parts (v0:=v0) (ow:=nV st++[.int (.ofNat T.length)]) (o1:=some (.int x)) ps T F CT CU h.lf (by lia) fun CT CU=>?_
  conv=>whnf
  exact k CT CU
end
end
section
open L04 Rxm
noncomputable def lH:Ss:=.cons (.asg 2 (.p1 .sum (.loc 0))) (.cons (.unp [.loc 12,.loc 13] (.p2 .idx (.fcall 9 (.nil)) (.p2 .mod (.loc 2) (.lit (.int (.ofNat 6)))))) (.cons (.asg 3 (.p2 .idx (.seq false (.cons (.lit (.str [])) (.cons (.lit (.str [32,32])) (.cons (.lit (.str [9])) .nil)))) (.p2 .mod (.p2 .fdiv (.loc 2) (.lit (.int (.ofNat 6)))) (.lit (.int (.ofNat 3)))))) (.cons (.asg 4 (.p2 .add (.lit (.int (.ofNat 1))) (.p2 .mod (.p2 .fdiv (.loc 2) (.lit (.int (.ofNat 18)))) (.lit (.int (.ofNat 8)))))) (.cons (.ex (.apnd 11 (.p1 .len (.loc 5)))) (.cons (.aug 5 .add (.p2 .add (.p2 .add (.loc 3) (.loc 12)) (.loc 13))) (.cons (.augl 6 (.p2 .mul (.seq false (.cons (.lit (.bool false)) .nil)) (.p1 .len (.p2 .add (.p2 .add (.loc 3) (.loc 12)) (.loc 13))))) (.cons (.asg 7 (.p2 .add (.lit (.int (.ofNat 1))) (.fcall 10 (.cons (.p2 .add (.loc 3) (.loc 12)) (.cons (.loc 4) .nil))))) (.cons (.asg 8 (.new (.cons (.lit (.int (.ofNat 4))) (.cons (.loc 4) .nil)))) (.cons (.ex (.mcall 1 8 (.cons (.loc 5) .nil))) .nil)))))))))
noncomputable def gD:Ss:=.cons (.ex (.apnd 11 (.p1 .len (.loc 5)))) (.cons (.aug 5 .add (.p2 .add (.p2 .add (.loc 3) (.loc 12)) (.loc 13))) (.cons (.augl 6 (.p2 .mul (.seq false (.cons (.lit (.bool false)) .nil)) (.p1 .len (.p2 .add (.p2 .add (.loc 3) (.loc 12)) (.loc 13))))) (.cons (.asg 7 (.p2 .add (.lit (.int (.ofNat 1))) (.fcall 10 (.cons (.p2 .add (.loc 3) (.loc 12)) (.cons (.loc 4) .nil))))) (.cons (.asg 8 (.new (.cons (.lit (.int (.ofNat 4))) (.cons (.loc 4) .nil)))) (.cons (.ex (.mcall 1 8 (.cons (.loc 5) .nil))) .nil)))))
theorem Sn:∀l:List Int,∃S,sumOf (l.map Val.int)=some S
 |[]=>⟨0,rfl⟩
 |i::l=>by
  obtain⟨S,e⟩:=Sn l
  refine⟨i+S,?_⟩
  show(match sumOf (l.map Val.int)with |some k=>some (i+k) |none=>none)=_
  rw[e]
theorem Zw{α:Type}(f:α→Val){l:List α}(n:Nat)(h0:0 < n)(hn:n≤l.length)(y:Int):∃a,a∈l∧IC (l.map f) (Int.fmod y (.ofNat n))=some (f a):=by
 obtain⟨r,hr,e⟩:=IW y n h0
 rw[e]
 have hr':r < l.length:=zO hr hn
 refine⟨l[r],List.getElem_mem hr',?_⟩
 show(l.map f)[r]? =_
 rw[Je,jc hr'];rfl
section
variable {rx:Rx}{X:A7→St→Prop}{t w y r:Txt}{F:List Bool}{st:List Nat}{tw:Nat}{v0 v2 v4 v12 v13:Val}{o1 CT CU:Option Val}
noncomputable abbrev lK(rx:Rx)(X:A7→St→Prop)(σ:St):Prop:=al (C8 rx) 8 6 9 3 (fun σ=>Ay (C8 rx) X DA (DC fun r _ _=>r=.bool true) σ) σ
theorem TH(R:Dc rx)(hsyn:rx.Em=DZ)(W:Wh t F st w y r)(L:SQ w y r)(S:Zh y r)(htw:1≤tw)(htw2:tw≤1000){fs:List (Option Val)}(hf:PS 4 tw t fs):
  lK rx X ⟨[some (.v v0),o1.map LV.v,some (.v v2),some (.v (.str w)),some (.v v4),some (.v (.str t)),some (.loc 0),some (.v (.int (.ofNat ((expand tw 0 (w++y)).length+1)))),some (.v (.obj 0)),none,none,some (.loc 1),some (.v v12),some (.v v13),none,CT.map LV.v,CU.map LV.v],[fV F,nV st],[],[.flds fs]⟩:=by
 obtain⟨gl,co,ss,se,lc,lo,br,rfl⟩:=hf
 have hS:Zq rx t F st:=⟨by have:=W.len;lia,fun p q s e hp hq h=>W.Em hp hq (by rw[←hsyn];exact h)⟩
 have ez:fz [fV F,nV st] [some (.v v0),o1.map LV.v,some (.v v2),some (.v (.str w)),some (.v v4),some (.v (.str t)),some (.loc 0),some (.v (.int (.ofNat ((expand tw 0 (w++y)).length+1)))),some (.v (.obj 0)),none,none,some (.loc 1),some (.v v12),some (.v v13),none,CT.map LV.v,CU.map LV.v]=
   some [some v0,o1,some v2,some (.str w),some v4,some (.str t),some (.seq false (fV F)),some (.int (.ofNat ((expand tw 0 (w++y)).length+1))),some (.obj 0),none,none,some (.seq false (nV st)),some v12,some v13,none,CT,CU]:=by
  cases o1 <;>cases CT <;>cases CU <;>rfl
 have eo:∀v,Bg (BD [some v0,o1,some v2,some (.str w),some v4,some (.str t),some (.seq false (fV F)),some (.int (.ofNat ((expand tw 0 (w++y)).length+1))),some (.obj 0),none,none,some (.seq false (nV st)),some v12,some v13,none,CT,CU]) 9 (.v v)=
   [some (.v v0),o1.map LV.v,some (.v v2),some (.v (.str w)),some (.v v4),some (.v (.str t)),some (.v (.seq false (fV F))),some (.v (.int (.ofNat ((expand tw 0 (w++y)).length+1)))),some (.v (.obj 0)),some (.v v),none,some (.v (.seq false (nV st))),some (.v v12),some (.v v13),none,CT.map LV.v,CU.map LV.v]:=fun v=>by
  cases o1 <;>cases CT <;>cases CU <;>rfl
 conv=>whnf
 refine A9 ez ?_
 refine Qu (d:=7) (l:=0) hS fun v hv=>?_
 show Ay (C8 rx) X DA _ ⟨Bg (BD _) 9 (.v v),[],[],_⟩
 rw[eo]
 exact RL R W L S htw htw2 hv MJ
theorem eT:(FM.all (fun w=>AC 128 w && (Nat.ble w.length 12 && w.all fun c=> !Nat.beq c 10 && !Nat.beq c 13)) && GU.all (fun p=>(AC 128 p.1 && (Nat.ble p.1.length 12 && p.1.all fun c=> !Nat.beq c 10 && !Nat.beq c 13)) && Nat.ble p.2.length 40))=true:=by kernel_rfl
theorem Wc{p:Txt}(h:(AC 128 p && (Nat.ble p.length 12 && p.all fun c=> !Nat.beq c 10 && !Nat.beq c 13))=true):AC 128 p=true∧p.length≤12∧Pl p:=by
 have h1:=zz.mp h
 have h2:=zz.mp h1.2
 refine⟨h1.1,zp h2.1,fun c hc=>?_⟩
 have h3:=zz.mp (zR.mp h2.2 c hc)
 exact⟨fun e=>by have:=h3.1;rw[e]at this;exact Bool.noConfusion this,fun e=>by have:=h3.2;rw[e]at this;exact Bool.noConfusion this⟩
theorem XZ{x y:Txt}(h1:Pl x)(h2:Pl y):Pl (x++y):=fun c hc=>(zF.mp hc).elim (h1 c) (h2 c)
noncomputable abbrev lQ(rx:Rx)(X:A7→St→Prop):Out→St→Prop:=fun o σ=>match o with | .next=>lK rx X σ |_=>False
theorem TT(R:Dc rx)(hsyn:rx.Em=DZ){T:Txt}{n n8:Nat}(h:Ac T F st n)(hn:n≤20){p:Txt×Txt}(hp:p∈GU)(hw:w∈FM)(hn8:n8 < 8):
  Ay (C8 rx) X gD (lQ rx X) ⟨[some (.v v0),o1.map LV.v,some (.v v2),some (.v (.str w)),some (.v (.int (.ofNat (1+n8)))),some (.v (.str T)),some (.loc 0),none,none,none,none,some (.loc 1),some (.v (.str p.1)),some (.v (.str p.2)),none,CT.map LV.v,CU.map LV.v],[fV F,nV st],[],[]⟩:=by
 have q:=zz.mp eT
 have q2:=zz.mp (zR.mp q.2 p hp)
 have cw:=Wc (zR.mp q.1 w hw)
 have cy:=Wc q2.1
 have hr:p.2.length≤40:=zp q2.2
 have L:=TR w hw p hp
 have W:=h.wh hn hw hp L
 have hT:=h.len
 have hls:=h.ls
 have hwy:(w++(p.1++p.2)).length=w.length+(p.1.length+p.2.length):=by rw[zd,zd]
 have hw1:(w++p.1).length=w.length+p.1.length:=zd
 have hF:F.length=T.length:=h.lf
 obtain⟨u,eu,_⟩:=L.run
 have k:=fun fs (hf:PS 4 (1+n8) (T++(w++(p.1++p.2))) fs)=>TH (X:=X) (v0:=v0) (v2:=v2) (v4:=.int (.ofNat (1+n8))) (v12:=.str p.1) (v13:=.str p.2) (o1:=o1) (CT:=CT) (CU:=CU) R hsyn W L (UD p hp) (tw:=1+n8) (by lia) (by lia) hf
 have ef:fV (F++List.replicate (w++(p.1++p.2)).length false)=fV F++fV (List.replicate (w++(p.1++p.2)).length false):=jm
 have en:nV (st++[T.length])=nV st++[.int (.ofNat T.length)]:=jm
 have ed:Int.ofNat ((expand (1+n8) 0 (w++p.1)).length+1)=Int.ofNat 1+Int.ofNat (expand (1+n8) 0 (w++p.1)).length:=by rw[jy];rfl
 rw[ef,en,ed]at k
 have a2:=(HO (rx:=rx) (show(w++p.1).length+p.2.length≤16777216 by lia)).trans (by rw[zk]:_=some (Val.str (w++(p.1++p.2))))
 conv=>whnf
 refine Ap (Rk (by lia)) ?_
 conv=>whnf
 refine A9 (HO (show w.length+p.1.length≤16777216 by lia)) ?_
 conv=>whnf
 refine A9 a2 ?_
 conv=>whnf
 refine A9 (HO (show T.length+(w++(p.1++p.2)).length≤16777216 by lia)) ?_
 conv=>whnf
 refine A9 (HO (show w.length+p.1.length≤16777216 by lia)) ?_
 conv=>whnf
 refine A9 a2 ?_
 conv=>whnf
 refine A9 (Vz (show(w++(p.1++p.2)).length≤10000 by lia)) ?_
 conv=>whnf
 refine Ap (zt (show(fV F).length+(fV (List.replicate (w++(p.1++p.2)).length false)).length≤16777216 by rw[z3,z3,jN];lia)) ?_
 conv=>whnf
 refine A9 (HO (show w.length+p.1.length≤16777216 by lia)) ?_
 conv=>whnf
 refine Pn (rx:=rx) (d:=7) (lead:=w++p.1) (tw:=1+n8) (XZ cw.2.2 cy.2.2) (D0 cw.1 cy.1) (by lia) ?_
 conv=>whnf
 refine FW (iw:=4) (tw:=1+n8) ⟨none,none,none,none,none,none,none,none,none,rfl⟩ ⟨T++u,by rw[eu,zk]⟩ fun f2 g2=>?_
 have k:=k f2 g2
 conv=>whnf
 conv at k=>whnf
 exact k
theorem Xp(R:Dc rx)(hsyn:rx.Em=DZ){xs:List Int}{T:Txt}{n:Nat}(h:Ac T F st n)(hn:n≤20):
  Ay (C8 rx) X lH (lQ rx X) (sL (.seq false (xs.map Val.int)) o1 T F (nV st) CT CU):=by
 obtain⟨S,hS⟩:=Sn xs
 have hsum:Bw rx .sum (.seq false (xs.map Val.int))=some (.int S):=by
  show(match sumOf (xs.map Val.int)with |some k=>some (Val.int k) |none=>none)=_
  rw[hS]
 obtain⟨p,hp,ep⟩:=Zw (fun p:Txt×Txt=>.seq true [.str p.1,.str p.2]) (l:=GU) 6 (by decide) (zw _) S
 obtain⟨w,hw,ew⟩:=Zw Val.str (l:=FM) 3 (by decide) (zw _) (Int.fdiv S (.ofNat 6))
 obtain⟨n8,hn8,e8⟩:=IW (Int.fdiv S (.ofNat 18)) 8 (by decide)
 have etw:Int.ofNat 1+Int.fmod (Int.fdiv S (.ofNat 18)) (.ofNat 8)=Int.ofNat (1+n8):=by rw[e8];rfl
 have k:=TT (X:=X) (v0:=.seq false (xs.map Val.int)) (v2:=.int S) (o1:=o1) (CT:=CT) (CU:=CU) R hsyn h hn hp hw hn8
 rw[←etw]at k
 conv=>whnf
 refine A9 hsum ?_
 conv=>whnf
 refine A9 ep ?_
 conv=>whnf
 refine A9 ew ?_
 conv=>whnf
 conv at k=>whnf
 exact k
theorem MM(R:Dc rx)(hsyn:rx.Em=DZ)(xs:List Int)(hl:xs.length≤63):
  Xh (C8 rx) DU DA 8 6 9 3 (DC fun r _ _=>r=.bool true) ⟨start [.seq false (xs.map .int)] Xg,[],[],[]⟩:=by
 have hsl:slice (xs.map Val.int) 0 6=(slice xs 0 6).map Val.int:=by
  show((xs.map Val.int).take (min 6 (xs.map Val.int).length)).drop (min 0 (xs.map Val.int).length)=((xs.take (min 6 xs.length)).drop (min 0 xs.length)).map Val.int
  rw[z3,List.map_drop,List.map_take]
 have h6:(slice xs 0 6).length≤6:=by
  show((xs.take (min 6 xs.length)).drop (min 0 xs.length)).length≤6
  rw[z4,jo]
  exact zl (jJ _ _) (zl (Nat.min_le_left _ _) (Nat.min_le_left _ _))
 have k:=fun Q hQ=>items (rx:=rx) (X:=fun _ _=>False) (Q:=Q) (v0:=.seq false (xs.map .int)) (slice xs 0 6) [] [] [] 0 none none none .nil (by lia) hQ
 rw[←hsl]at k
 conv=>whnf
 refine k _ fun T F st n o1 CT CU h hn=>?_
 exact Xp R hsyn h hn
end
end
end Ak.Pu
section
open PySem PySem.W PySem.Calls PyProof.Rows
section
set_option maxHeartbeats 8000000
set_option pp.deepTerms false
set_option pp.maxSteps 1500
namespace Ak.L04
noncomputable def eY:Ne:=⟨Rxm.CR,L04.fns,0,11⟩
theorem MM(xs:List Int)(hl:xs.length≤63):Xh (Dh eY 8) DU DA 8 6 9 3 (DC fun r _ _=>r=.bool true) ⟨start [.seq false (xs.map .int)] Xg,[],[],[]⟩:=
 Pu.MM ⟨rfl,rfl,rfl,rfl⟩ rfl xs hl
noncomputable def Mk(prog:Program)(w:World)(h₀:Heap):Cx where
 prog:=prog
 w:=w
 K:=kf w.params
 PC:=254
 B0:=h₀
 attrs:=attrs
 self:="self"
 fad:=Eb.map (·.ad)
 gl:=gl
 mth:=H8 (K7 (kf w.params) Eb)
 lam:=ak
section
variable {prog:Program}{w:World}{h₀:Heap}
theorem ik(X:(kf w.params).In h₀):EJ (Mk prog w h₀) where
 gl:=Z6 (fun a o e=>X a o e) (glob w.params)
 attrs:=fun k n hk=>Zy (zR.mp (attr w.params) n (jh hk))
 nd:=Kg (by kernel_rfl)
 few:=by show 11≤900;decide
theorem Vw:KN (Mk prog w h₀) where
 bind:=fun _ _ _ _ _=>by kernel_rfl
 kk:=by kernel_rfl
 kn:=by kernel_rfl
 co:=by kernel_rfl
 gen:=by kernel_rfl
 kind:=by kernel_rfl
 cell:=fun x hx=>by
  have hx:x∈Lp.names:=hx
  rcases z5.mp hx with e |hx
  ·rw[e];exact nofun
  ·rw[zI.mp hx];exact nofun
 dk:=by kernel_rfl
 dn:=by kernel_rfl
 dc:=by kernel_rfl
theorem LA:∀{l:List Str} {es:List Ent} {k:Nat},Rc (kf w.params) l es=true→k < l.length→∃e,es[k]? =some e∧gF (kf w.params) 254 attrs (AH l k) e.ad=true
 |[],_,_,_,h=>absurd h (jt _)
 |_::_,[],_,h,_=>ft h
 |_::_,e::_,0,h,_=>⟨e,rfl,(Ad h).1⟩
 |_::_,_::_,k+1,h,hk=>LA (k:=k) (Ad h).2 (jB hk)
theorem Kd{k:Nat}(hk:k < 9)(e:Ent)(he:Eb[k]? =some e)(hm:(Mk prog w h₀).mth k=true)(hf:(Mk prog w h₀).fad[k]? =some e.ad):SX (Mk prog w h₀) (AH (Dj.take 9) k) k:=by
 refine Ab (LA (Ah w.params) hk) fun e' h1 h2=>?_
 cases ze (he.symm.trans h1)
 exact az hm hf h2
theorem ai:KF (Mk prog w h₀) Dj 9 "Parser" 160:=by
 have h0:=Ad (gk w.params)
 refine aj (lF w.params) (fun k h0' h1'=>?_) (Wg (P:=fun k=>SX (Mk prog w h₀) (AH Dj k) k) (n:=9) ⟨⟨⟨⟨⟨⟨⟨⟨⟨trivial,Kd (k:=0) (by decide) _ rfl rfl rfl⟩,Kd (k:=1) (by decide) _ rfl rfl rfl⟩,Kd (k:=2) (by decide) _ rfl rfl rfl⟩,Kd (k:=3) (by decide) _ rfl rfl rfl⟩,Kd (k:=4) (by decide) _ rfl rfl rfl⟩,Kd (k:=5) (by decide) _ rfl rfl rfl⟩,Kd (k:=6) (by decide) _ rfl rfl rfl⟩,Kd (k:=7) (by decide) _ rfl rfl rfl⟩,Kd (k:=8) (by decide) _ rfl rfl rfl⟩)
 refine zg (Jz h0') fun j e=>?_
 rw[←e]at h1' ⊢
 exact Wg (P:=fun j=>(Mk prog w h₀).mth (9+j)=false∧∃a,(Mk prog w h₀).fad[9+j]? =some a∧fc (kf w.params) (AH Dj (9+j)) a=true) (n:=2) ⟨⟨trivial,rfl,_,rfl,h0.1⟩,rfl,_,rfl,h0.2⟩ j (Nat.lt_of_add_lt_add_left h1')
noncomputable def fY(K:Frag)(self:Str)(e:Ent):Prop:=∀args:List Value,args.length=((e.D K).AI self).length→bindArgs (fdOf K e.ad) ⟨args,[]⟩=pure (((e.D K).AI self).zip args)
theorem ZZ(X:(kf w.params).In h₀):GD (Mk prog w h₀) eY Eb Dj 9 "Parser" 160:=by
 refine⟨ik X,Vw,ai,rfl,rfl,by decide,ents w.params,texts w.params,fun k e he=>?_,rfl,rfl,rfl,rfl⟩
 refine Wg (P:=fun k=>∀e,Eb[k]? =some e→fY (kf w.params) "self" e) (n:=11) ?_ k (zu.mp he).1 e he
 have o:∀{k:Nat} {e:Ent},Eb[k]? =some e→fY (kf w.params) "self" e→∀e,Eb[k]? =some e→fY (kf w.params) "self" e:=fun h hb e he=>ze (h.symm.trans he)▸hb
 exact⟨⟨⟨⟨⟨⟨⟨⟨⟨⟨⟨trivial,o rfl (lm rfl (fun _ _ _=>by kernel_rfl))⟩,o rfl (fb rfl (fun _ _=>by kernel_rfl))⟩,o rfl (ZD rfl (fun _=>by kernel_rfl))⟩,o rfl (fb rfl (fun _ _=>by kernel_rfl))⟩,o rfl (ZD rfl (fun _=>by kernel_rfl))⟩,o rfl (fb rfl (fun _ _=>by kernel_rfl))⟩,o rfl (ZD rfl (fun _=>by kernel_rfl))⟩,o rfl (ZD rfl (fun _=>by kernel_rfl))⟩,o rfl (ZD rfl (fun _=>by kernel_rfl))⟩,o rfl (ll rfl (by kernel_rfl))⟩,o rfl (fb rfl (fun _ _=>by kernel_rfl))⟩
noncomputable def Lu(w:World)(h₀:Heap)(L fa:Addr):Fx:=⟨"law",(fdOf (kf w.params) 310).scope,L,fa,.ref 309,[("inside",L+1)],h₀,E2.pargs++E2.locs⟩
theorem ap{mg mb:Str→Option Value}{q:Program}{loose:List Str}{mean:ExcName→Option Value}{h₁:Heap}{m:Str→Option Value}{L fa a:Addr}{co:Obj}{vals:List Value}{xs:List Int}{gens:Array GenState}{dr:Drawn}{tk:Nat}{os:OsState}{base:Heap}
  (X:(kf w.params).In h₀) (T:Top q loose mean mg mb h₀) (K0:Below callerA base [] h₀) (C:CodeHd h₀ 309 305) (hlt:305 < L) (F:Fr h₀ L h₁ m) (N:News h₀ L h₁ [(L+1,co),(305,tabObj #[])]) (hco:∃v,co.data=.cell v) (hm:m "script"=some (.ref a)) (hL:h₀.IsList a vals.toArray) (hI:IntsAre vals xs)
  (hlen:xs.length≤63) {E:Value→Shared→Prop} {Q:Flow→Shared→Prop} (hq:∀s' m' ps,Fr h₀ L s'.heap m'→Ar ⟨h₁,gens,dr,tk,os⟩ s'→s'.heap.get? 305=some (tabObj ps)→Q (.ret (.bool true)) s'):
  wpAny (model prog w) (callerA.deeper (Lu w h₀ L fa).env) (execs (Ff (fdOf (kf w.params) 310)) (Lu w h₀ L fa).env) Q E ⟨h₁,gens,dr,tk,os⟩:=by
 have O:=ZZ (prog:=prog) (w:=w) (h₀:=h₀) X
 have HC:=O.calls 8
 have W:Zr (Mk prog w h₀) (Dh eY 8) 8 ⟨E2.pargs++E2.locs,(fdOf (kf w.params) 310).scope,false⟩ MA:=
  V7 (S:=⟨E2.pargs++E2.locs,(fdOf (kf w.params) 310).scope,false⟩) ai rfl rfl rfl rfl Vw HC (au w.params)
 have G:Nb (Mk prog w h₀) (Lu w h₀ L fa) (callerA.deeper (Lu w h₀ L fa).env) 8:=
  {kind:=by kernel_rfl,hh:=rfl,depth:=by show 1+claimMargin+1+8*8+8 < 1000;decide+kernel,units:=by show 4+3+24*8+80 < 9900;decide,fr:=⟨[],callerA,base,rfl,K0⟩,X:=X,T:=⟨_,_,_,mg,mb,T⟩,gd:=⟨[],rfl⟩}
 have NM:Hs (Mk prog w h₀) (Lu w h₀ L fa):=T2 (f:=Lu w h₀ L fa) (au w.params) (by kernel_rfl) (by kernel_rfl) (by kernel_rfl) rfl
 have hvl:vals.length=xs.length:=by
  clear hL
  induction hI with
  |nil=>rfl
  |cons _ _ _ ih=>simp[ih (by simp at hlen;lia)]
 have la:PG (Mk prog w h₀) (Lu w h₀ L fa) 305 309 (L+1) (MA.p (DJ DU+5)):=⟨C,rfl,rfl,by kernel_rfl,by kernel_rfl,by kernel_rfl,by kernel_rfl⟩
 have hD:(K7 (kf w.params) Eb)[3]? =some ((⟨174,true,["is_char_in_string"],["limit","tries","i","code","pos","m","s"],["len","range","_synchre"],(Eb.getD 3 E2).ps⟩:Ent).D (kf w.params),174,(fdOf (kf w.params) 174).code):=rfl
 have bd:=O.P5 (d:=7) (O.calls 7) hD (fn:=BW) rfl
 rw[←gA w.params]
 refine Xi (s:=⟨h₁,gens,dr,tk,os⟩) (m:=m) (c:=Mk prog w h₀) (P:=eY) (d:=7) (f:=Lu w h₀ L fa) (i:=6) (xs:=xs.map .int) (nloc:=Xg) O.ok HC O.are W gz aq G NM rfl rfl rfl la hD rfl rfl bd rfl rfl rfl (by decide) (by lia) F N hco (sn:="script") rfl (by kernel_rfl) hm ?_ (fun _ _ e=>e) (MM xs hlen) hq
 obtain⟨o,h1,h2,n,h3⟩:=hL
 exact .seq ⟨o,.inl h1,h2,h3⟩ (by rw[z3];show xs.length≤16777216;lia) (NF hI)
end
end Ak.L04
open Ak.L04
noncomputable def Ak.top.tw16679763427565415256:Program:=Hd.q
theorem Ak.top.te16679763427565415256:Hd.q=Ak.top.tw16679763427565415256:=rfl
noncomputable def Ak.top.tw7625976266985363445:List Str:=Hd.loose
theorem Ak.top.te7625976266985363445:Hd.loose=Ak.top.tw7625976266985363445:=rfl
theorem Ak.top:PySem.Challenge.rw_km0029_02.Holds:=by
 refine Hd.hd ?_
 k_fill
 intro w s₀ s₁ mg mb G Y fa o pm cd doc dV kV ho hd hcd hD hmg hg args vals as hpre hlay hrd hwl hlo
 have KX:=km_in_of Y
 have hT8:=km_tabs_of Y
 have X:=(Ground.X G).1
 have V:=(Ground.X G).2
 refine Ground.open G ?_
 intro T B D TE TW
 try (refine guard_noD D (by decide+kernel) ?_;clear D)
 have hT9:TabsAt [(309,305)] _:=zo.mpr ⟨⟨codeHd_of_K (c:=309) (P:=305) KX (by kernel_rfl),hT8 305 (.head _)⟩,fun _ h=>nomatch h⟩
 have he9:cd=PySem.Value.ref 309:=law_code (x:=PySem.Str.ofString "law") (c:=309) (P:=305) KX (Top.g T) (by kernel_rfl) hmg ho hd
 subst he9
 clear hmg
 wrow_args hpre hlay hrd hwl hlo
 refine Ak.NG.enter hT9 (fun _ _=>rfl) ?_
 w_top on
 w_call any ho hd hcd hD T F
 clear hd
 kn_ghosts F T
 k_drop
 have T:= ‹Top topProg _ _ _ _ _›
 have KX:= ‹Frag.In _ (ghostOf _ _)›
 have K0:= ‹Below _ _ _ _›
 have hF:= ‹Fr _ _ _ _›
 have hN:= ‹News _ _ _ _›
 have hL:= ‹Heap.IsList (ghostOf _ _) _ _›
 have hI:= ‹IntsAre _ _›
 have hC:= ‹CodeHd _ _ _›
 have hl:= ‹305 < _›
 have hg0:= ‹Shared.gens _= #[]›
 refine ap KX T K0 hC hl hF hN ⟨_,by assumption⟩ rfl hL hI ?_ ?_
 ·lia
 ·intro s' m' ps F' sm hp
  refine⟨goodW_bool F' ?_ ?_ ?_ ?_,⟨ps,hp⟩,trivial⟩
  ·exact sm.gens.trans hg0
  ·intro cls;rfl
  ·first |wrow_post |rfl
  ·exact sm.os
end
end
theorem PySem.Challenge.cw_km0029_02_holds : PySem.Challenge.rw_km0029_02.Holds :=
 Ak.top
